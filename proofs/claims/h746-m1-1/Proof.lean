import JvmDerived
import JvmDerived.Pilot.@@N@@Statement
import JvmDerived.Pilot.@@N@@Code
set_option linter.unusedVariables false
set_option linter.unusedSimpArgs false
namespace Jvm.Pilot.@@N@@
open Jvm Jvm.ClassFile Sem Op Lib Jvm.Free Jvm.Stand Jvm.LawKit Jvm.RoadKit Bundle Jvm.Pilot.@@N@@.Jvm.D
/-! OWN PRELUDE: a walk in continuation form: 'Goes .. U': from U on the body comes to its return, with Q -/
section OwnPrelude
variable {p : Program} {l : Launch} {e : Env} {R : Room} {s : State} {m : MethodId} {args : Array Value} {below : List Frame} {meth : Method} {c : Code} {T U U' : State} {locs : List Loc} {cells slots ce sl : Nat} {Q : Option Value → Heap → List Loc → Prop}
def Goes (p : Program) (e : Env) (s : State) (below : List Frame) (Q : Option Value → Heap → List Loc → Prop) (ce sl : Nat) (U : State) : Prop :=
  ∃ t o, Steps p.tables e below U t ∧ t.status = .running ∧ Ended t below o ∧ ∃ v L, o = .returned v ∧ Q v t.heap L ∧ FrameEnd s o t L ce sl
theorem Goes.st (h : ∀ t, Steps p.tables e below U' t → Steps p.tables e below U t) (k : Goes p e s below Q ce sl U') : Goes p e s below Q ce sl U := by
  obtain ⟨t, o, h1, r⟩ := k
  exact ⟨t, o, h t h1, r⟩
theorem Goes.tr (h : Steps p.tables e below U U') (k : Goes p e s below Q ce sl U') : Goes p e s below Q ce sl U := by
  obtain ⟨t, o, h1, r⟩ := k
  exact ⟨t, o, h.trans h1, r⟩
theorem Goes.out (X : Stand p l e R s m args below meth c T locs cells slots) (hlocks : meth.locks = false) {v : Option Value} (hv : meth.sig.returnType = none → v = none) (hc : cells ≤ ce) (hs : slots ≤ sl) (hq : Q v T.heap locs)
    (k : ∀ fs, (∀ (f : JFrame) (acts : List Action), f.method = m → f.locked = none → f.entered = [] → (doReturn e (T.setTop f) acts v).1 = T.setFrames fs) → Steps p.tables e below U (T.setFrames fs)) : Goes p e s below Q ce sl U := by
  obtain ⟨fs, hr, hrun, hended, hW, hsame⟩ := X.leave (v := v) hv hlocks
  exact ⟨_, _, k fs hr, hrun, hended, _, _, rfl, hq, ⟨_, rfl⟩, hW, hsame.mono hc hs⟩
theorem Goes.retI (X : Stand p l e R s m args below meth c T locs cells slots) (hx : p.tables.exec = Jvm.exec) (hlocks : meth.locks = false) {pc : Nat} {Ls : Array Slot} {z : Int32} {rest : List Value} (hret : meth.sig.returnType = some .int) (hd : decode c.code pc = .ok (.ireturn, 1))
    (hc : cells ≤ ce) (hs : slots ≤ sl) (hq : Q (some (.int z)) T.heap locs) : Goes p e s below Q ce sl (T.setTop (mkF m pc Ls (.int z :: rest))) :=
  Goes.out X hlocks (fun h => by rw [hret] at h; cases h) hc hs hq fun fs hl => retOut X hx hret rfl (Or.inl ⟨rfl, Or.inl rfl, _, rfl⟩) hd hl
theorem Goes.retZ (X : Stand p l e R s m args below meth c T locs cells slots) (hx : p.tables.exec = Jvm.exec) (hlocks : meth.locks = false) {pc : Nat} {Ls : Array Slot} {z : Int32} {rest : List Value} (hret : meth.sig.returnType = some .boolean) (hd : decode c.code pc = .ok (.ireturn, 1))
    (hz : z &&& 1 = z) (hc : cells ≤ ce) (hs : slots ≤ sl) (hq : Q (some (.int z)) T.heap locs) : Goes p e s below Q ce sl (T.setTop (mkF m pc Ls (.int z :: rest))) :=
  Goes.out X hlocks (fun h => by rw [hret] at h; cases h) hc hs hq fun fs hl => retOut X hx hret (by show Value.int (z &&& 1) = _; rw [hz]) (Or.inl ⟨rfl, Or.inr (Or.inl rfl), _, rfl⟩) hd hl
theorem Goes.retJ (X : Stand p l e R s m args below meth c T locs cells slots) (hx : p.tables.exec = Jvm.exec) (hlocks : meth.locks = false) {pc : Nat} {Ls : Array Slot} {z : Int64} {rest : List Value} (hret : meth.sig.returnType = some .long) (hd : decode c.code pc = .ok (.lreturn, 1))
    (hc : cells ≤ ce) (hs : slots ≤ sl) (hq : Q (some (.long z)) T.heap locs) : Goes p e s below Q ce sl (T.setTop (mkF m pc Ls (.long z :: rest))) :=
  Goes.out X hlocks (fun h => by rw [hret] at h; cases h) hc hs hq fun fs hl => retOut X hx hret rfl (Or.inr (Or.inl ⟨rfl, rfl, _, rfl⟩)) hd hl
theorem Goes.retA (X : Stand p l e R s m args below meth c T locs cells slots) (hx : p.tables.exec = Jvm.exec) (hlocks : meth.locks = false) {pc : Nat} {Ls : Array Slot} {w : Value} {t : FieldType} {rest : List Value} (hret : meth.sig.returnType = some t) (hd : decode c.code pc = .ok (.areturn, 1))
    (ht : t.isReference = true) (hw : w.isRef = true) (hn : narrow t w = w) (hc : cells ≤ ce) (hs : slots ≤ sl) (hq : Q (some w) T.heap locs) : Goes p e s below Q ce sl (T.setTop (mkF m pc Ls (w :: rest))) :=
  Goes.out X hlocks (fun h => by rw [hret] at h; cases h) hc hs hq fun fs hl => retOut X hx hret hn (Or.inr (Or.inr (Or.inr (Or.inr ⟨rfl, ht, hw⟩)))) hd hl
theorem Goes.retV (X : Stand p l e R s m args below meth c T locs cells slots) (hx : p.tables.exec = Jvm.exec) (hlocks : meth.locks = false) {pc : Nat} {Ls : Array Slot} (hret : meth.sig.returnType = none) (hd : decode c.code pc = .ok (.return_, 1))
    (hc : cells ≤ ce) (hs : slots ≤ sl) (hq : Q none T.heap locs) : Goes p e s below Q ce sl (T.setTop (mkF m pc Ls [])) :=
  Goes.out X hlocks (fun _ => rfl) hc hs hq fun fs hl => X.returnOut hx hret hd hl
/-- a boolean as the machine has it -/
def b2i (b : Bool) : Int32 := if b then 1 else 0
theorem b2i_one (b : Bool) : b2i b &&& 1 = b2i b := by cases b <;> rfl
theorem b2i_t {b : Bool} (h : ¬ b2i b = 0) : b = true := by cases b; exact absurd rfl h; rfl
theorem b2i_f {b : Bool} (h : b2i b = 0) : b = false := by cases b; rfl; exact absurd h (by decide)
theorem Exa_ns {Z : State} {h : Heap} {a : Addr} {C : String} (E : Exa Z h a C) : ∀ cell : Cell, h[a]? = some cell → cell.vm.isStatics = false := fun cell hc => by
  obtain ⟨c1, _, h1, -, -, h4, -⟩ := E
  cases h1.symm.trans hc
  exact h4
theorem Sta_keep {Z : State} {h h' : Heap} {C n d : String} {v : Value} {ws : List Addr} (F : Sta Z h C n d v) (K : Keep h h' ws) (q : ∀ x ∈ ws, ∀ cell : Cell, h[x]? = some cell → cell.vm.isStatics = false) : Sta Z h' C n d v := by
  obtain ⟨cf, i, k, f, st, cell, h1, h2, h3, h4, h5, h6, h7⟩ := F
  exact ⟨cf, i, k, f, st, cell, h1, h2, h3, h4, K.2.1 _ _ h5 (fun y => by have := q _ y _ h5; rw [h6] at this; cases this), h6, h7⟩
theorem own_selp {u : State} {as : Array Value} {y : MethodName} {n : Nat} (hins : (Cond.instantiable y.cls n).before as u = true) (hpriv : u.PrivateAt y) (hinst : (Cond.instanceMethod y).before as u = true) (hy : y.cls ≠ "java/lang/invoke/MethodHandle" ∧ y.cls ≠ "java/lang/invoke/VarHandle") : (Cond.selects y.cls y y).before as u = true := by
  obtain ⟨c, k, hc, hk, -, hniab, -, -⟩ := Cond.instantiable_spec hins
  exact selects_self_of_private hc hk (Bool.or_eq_false_iff.mp hniab).1 hpriv hinst hy
end OwnPrelude

theorem d1_0 : decode prog_24_method_6_code 0 = .ok (.lload_n 0, 1) := by decide +kernel
theorem d1_1 : decode prog_24_method_6_code 1 = .ok (.ldc2_w 89, 3) := by decide +kernel
theorem d1_4 : decode prog_24_method_6_code 4 = .ok (.lload_n 2, 1) := by decide +kernel
theorem d1_5 : decode prog_24_method_6_code 5 = .ok (.lsub, 1) := by decide +kernel
theorem d1_6 : decode prog_24_method_6_code 6 = .ok (.lcmp, 1) := by decide +kernel
theorem d1_7 : decode prog_24_method_6_code 7 = .ok (.ifCond .le 9, 3) := by decide +kernel
theorem d1_10 : decode prog_24_method_6_code 10 = .ok (.ldc2_w 89, 3) := by decide +kernel
theorem d1_13 : decode prog_24_method_6_code 13 = .ok (.goto 6, 3) := by decide +kernel
theorem d1_16 : decode prog_24_method_6_code 16 = .ok (.lload_n 0, 1) := by decide +kernel
theorem d1_17 : decode prog_24_method_6_code 17 = .ok (.lload_n 2, 1) := by decide +kernel
theorem d1_18 : decode prog_24_method_6_code 18 = .ok (.ladd, 1) := by decide +kernel
theorem d1_19 : decode prog_24_method_6_code 19 = .ok (.lreturn, 1) := by decide +kernel
theorem pn_0 : plainName "com/example/dequeue/dequeue/model/DelayLevelTable" = true := by first | (simp [plainName, overriddenIn]; done) | decide +kernel
theorem ef_rm1 (m : MethodId) (q1 : Int64) (q2 : Int64) : entryFrame m #[(.long q1), (.long q2)] 4 = mkF m 0 #[.val (.long q1), .second, .val (.long q2), .second] [] := by first | (simp [entryFrame, mkF, argsToLocals, Value.category]; done) | rfl
def fn1 (q1 : Int64) (q2 : Int64) : Int64 := (if ((9223372036854775807 : Int64) - q2) < q1 then (9223372036854775807 : Int64) else (q1 + q2))
def Q1 (Z : State) (q1 : Int64) (q2 : Int64) (h0 : Heap) (n0 : Nat) (v : Option Value) (h : Heap) (L : List Loc) : Prop := v = some (.long (fn1 q1 q2)) ∧ Fr n0 L ∧ h = h0
set_option maxRecDepth 65536 in
set_option maxHeartbeats 40000000 in
theorem rm1 (l : Launch) (Z : State) (a0 : Array Value) (hw : ∀ d ∈ tables_1, d.before a0 Z = true) (ws : List Jvm.Cond) (q1 : Int64) (q2 : Int64) (h0 : Heap) (n0 : Nat) (Z0 : n0 ≤ h0.size) :
    MetFree l (⟨"com/example/dequeue/dequeue/model/DelayLevelTable", "dueAtMs", "(JJ)J"⟩ : MethodName) (head1 (Jvm.Cond.code (⟨"com/example/dequeue/dequeue/model/DelayLevelTable", "dueAtMs", "(JJ)J"⟩ : MethodName) prog_24_method_6_code 4 (some .long) :: ws) ({ frames := 0, cells := 0, slots := 0, locals := 0 } : Room)) (fun a U => a = #[(.long q1), (.long q2)] ∧ Z.Warmed39 U.vm ∧ U.heap = h0) (fun _ _ _ _ _ => True) (fun _ U o U' => ∃ v L, o = .returned v ∧ Q1 Z q1 q2 h0 n0 v U'.heap L ∧ FrameEnd U o U' L ({ frames := 0, cells := 0, slots := 0, locals := 0 } : Room).cells ({ frames := 0, cells := 0, slots := 0, locals := 0 } : Room).slots) := by
  refine MetFree.of_bodySF (plainFor_of_name pn_0) hisR ?_
  intro p e s m args below meth c s₁ Bd hml0 hP hK
  obtain ⟨rfl, hZ, hh⟩ := hP
  have hx := Bd.exec
  have hby := Bd.bytes
  have hml : c.maxLocals = 4 := hml0
  have hown : s.vm.findClass "com/example/dequeue/dequeue/model/DelayLevelTable" = some m.cls := findClass_of_methodNamed Bd.named
  have hnm := (name_of_methodNamed Bd.named Bd.method).1
  have X0 : Stand p l e ({ frames := 0, cells := 0, slots := 0, locals := 0 } : Room) s m #[(.long q1), (.long q2)] below meth c s₁ [] 0 0 := Stand.of_body Bd
  have e0 : s₁.heap = h0 := by rw [← hh, Bd.state]; rfl
  have N0 := Fr.nil n0
  show Goes p e s below (fun v h L => Q1 Z q1 q2 h0 n0 v h L) ({ frames := 0, cells := 0, slots := 0, locals := 0 } : Room).cells ({ frames := 0, cells := 0, slots := 0, locals := 0 } : Room).slots (s₁.setTop (entryFrame m #[(.long q1), (.long q2)] 4))
  refine Goes.st (U' := s₁.setTop (mkF m 0 #[.val (.long q1), .second, .val (.long q2), .second] [])) (fun t k => castTop (ef_rm1 m q1 q2) k) ?_
  refine Goes.st (U' := s₁.setTop (mkF m 1 #[.val (.long q1), .second, .val (.long q2), .second] [(.long q1)])) (fun t k => XS.lloadN X0.here hx rfl (hb hby d1_0) rfl k) ?_
  refine Goes.st (U' := s₁.setTop (mkF m 4 #[.val (.long q1), .second, .val (.long q2), .second] [(.long (9223372036854775807 : Int64)), (.long q1)])) (fun t k => X0.ldc2Long hx hown (mvT hZ (hw _ (List.mem_of_getElem? (i := 5) rfl))) (g := (mkF m 1 #[.val (.long q1), .second, .val (.long q2), .second] [(.long q1)])) rfl (hb hby d1_1) t k) ?_
  refine Goes.st (U' := s₁.setTop (mkF m 5 #[.val (.long q1), .second, .val (.long q2), .second] [(.long q2), (.long (9223372036854775807 : Int64)), (.long q1)])) (fun t k => XS.lloadN X0.here hx rfl (hb hby d1_4) rfl k) ?_
  refine Goes.st (U' := s₁.setTop (mkF m 6 #[.val (.long q1), .second, .val (.long q2), .second] [(.long ((9223372036854775807 : Int64) - q2)), (.long q1)])) (fun t k => XS.lsub X0.here hx rfl (hb hby d1_5) rfl k) ?_
  refine Goes.st (U' := s₁.setTop (mkF m 7 #[.val (.long q1), .second, .val (.long q2), .second] [(.int (lcmpW q1 ((9223372036854775807 : Int64) - q2)))])) (fun t k => XS.lcmp X0.here hx rfl (hb hby d1_6) rfl k) ?_
  rcases Decidable.em (((9223372036854775807 : Int64) - q2) < q1) with hc7 | hc7
  · refine Goes.st (U' := s₁.setTop (mkF m 10 #[.val (.long q1), .second, .val (.long q2), .second] [])) (fun t k => XS.ifNo X0.here hx rfl (hb hby d1_7) rfl ((if0 _ _).trans (tlt ((lw_gt _ _).mpr hc7)).2.2.2) k) ?_
    refine Goes.st (U' := s₁.setTop (mkF m 13 #[.val (.long q1), .second, .val (.long q2), .second] [(.long (9223372036854775807 : Int64))])) (fun t k => X0.ldc2Long hx hown (mvT hZ (hw _ (List.mem_of_getElem? (i := 5) rfl))) (g := (mkF m 10 #[.val (.long q1), .second, .val (.long q2), .second] [])) rfl (hb hby d1_10) t k) ?_
    refine Goes.st (U' := s₁.setTop (mkF m 19 #[.val (.long q1), .second, .val (.long q2), .second] [(.long (9223372036854775807 : Int64))])) (fun t k => XS.goto X0.here hx rfl (pc0 := 13) (pc' := 19) rfl (hb hby d1_13) (by decide) (by decide) k) ?_
    refine Goes.retJ X0 hx (BodyLoose.notSynchronized Bd) Bd.returns (hb hby d1_19) (by decide) (by decide) ?_
    show Q1 Z q1 q2 h0 n0 _ s₁.heap _
    rw [e0]
    exact ⟨(congrArg some (congrArg _ (by unfold fn1; rw [if_pos hc7]))), N0, rfl⟩
  · refine Goes.st (U' := s₁.setTop (mkF m 16 #[.val (.long q1), .second, .val (.long q2), .second] [])) (fun t k => XS.ifYes X0.here hx rfl (pc0 := 7) (pc' := 16) rfl (hb hby d1_7) rfl ((if0 _ _).trans (flt (fun q => hc7 ((lw_gt _ _).mp q))).2.2.2) (by decide) (by decide) k) ?_
    refine Goes.st (U' := s₁.setTop (mkF m 17 #[.val (.long q1), .second, .val (.long q2), .second] [(.long q1)])) (fun t k => XS.lloadN X0.here hx rfl (hb hby d1_16) rfl k) ?_
    refine Goes.st (U' := s₁.setTop (mkF m 18 #[.val (.long q1), .second, .val (.long q2), .second] [(.long q2), (.long q1)])) (fun t k => XS.lloadN X0.here hx rfl (hb hby d1_17) rfl k) ?_
    refine Goes.st (U' := s₁.setTop (mkF m 19 #[.val (.long q1), .second, .val (.long q2), .second] [(.long (q1 + q2))])) (fun t k => XS.ladd X0.here hx rfl (hb hby d1_18) rfl k) ?_
    refine Goes.retJ X0 hx (BodyLoose.notSynchronized Bd) Bd.returns (hb hby d1_19) (by decide) (by decide) ?_
    show Q1 Z q1 q2 h0 n0 _ s₁.heap _
    rw [e0]
    exact ⟨(congrArg some (congrArg _ (by unfold fn1; rw [if_neg hc7]))), N0, rfl⟩
theorem d2_0 : decode method_3_code 0 = .ok (.lload_n 0, 1) := by decide +kernel
theorem d2_1 : decode method_3_code 1 = .ok (.lload_n 2, 1) := by decide +kernel
theorem d2_2 : decode method_3_code 2 = .ok (.ladd, 1) := by decide +kernel
theorem d2_3 : decode method_3_code 3 = .ok (.lstore 4, 2) := by decide +kernel
theorem d2_5 : decode method_3_code 5 = .ok (.lload 4, 2) := by decide +kernel
theorem d2_7 : decode method_3_code 7 = .ok (.lload_n 0, 1) := by decide +kernel
theorem d2_8 : decode method_3_code 8 = .ok (.lcmp, 1) := by decide +kernel
theorem d2_9 : decode method_3_code 9 = .ok (.ifCond .ge 7, 3) := by decide +kernel
theorem d2_12 : decode method_3_code 12 = .ok (.ldc2_w 9, 3) := by decide +kernel
theorem d2_15 : decode method_3_code 15 = .ok (.lreturn, 1) := by decide +kernel
theorem d2_16 : decode method_3_code 16 = .ok (.lload 4, 2) := by decide +kernel
theorem d2_18 : decode method_3_code 18 = .ok (.lreturn, 1) := by decide +kernel
theorem pn_1 : plainName "com/example/dequeue/dequeue/model/DelayLevelTableDueAtMsPinLaw" = true := by first | (simp [plainName, overriddenIn]; done) | decide +kernel
theorem ef_rm2 (m : MethodId) (q1 : Int64) (q2 : Int64) : entryFrame m #[(.long q1), (.long q2)] 6 = mkF m 0 #[.val (.long q1), .second, .val (.long q2), .second, .unset, .unset] [] := by first | (simp [entryFrame, mkF, argsToLocals, Value.category]; done) | rfl
def fn2 (q1 : Int64) (q2 : Int64) : Int64 := (if (q1 + q2) < q1 then (9223372036854775807 : Int64) else (q1 + q2))
def Q2 (Z : State) (q1 : Int64) (q2 : Int64) (h0 : Heap) (n0 : Nat) (v : Option Value) (h : Heap) (L : List Loc) : Prop := v = some (.long (fn2 q1 q2)) ∧ Fr n0 L ∧ h = h0
set_option maxRecDepth 65536 in
set_option maxHeartbeats 40000000 in
theorem rm2 (l : Launch) (Z : State) (a0 : Array Value) (hw : ∀ d ∈ tables_1, d.before a0 Z = true) (ws : List Jvm.Cond) (q1 : Int64) (q2 : Int64) (h0 : Heap) (n0 : Nat) (Z0 : n0 ≤ h0.size) :
    MetFree l (⟨"com/example/dequeue/dequeue/model/DelayLevelTableDueAtMsPinLaw", "expected", "(JJ)J"⟩ : MethodName) (head1 (Jvm.Cond.code (⟨"com/example/dequeue/dequeue/model/DelayLevelTableDueAtMsPinLaw", "expected", "(JJ)J"⟩ : MethodName) method_3_code 6 (some .long) :: ws) ({ frames := 0, cells := 0, slots := 0, locals := 0 } : Room)) (fun a U => a = #[(.long q1), (.long q2)] ∧ Z.Warmed39 U.vm ∧ U.heap = h0) (fun _ _ _ _ _ => True) (fun _ U o U' => ∃ v L, o = .returned v ∧ Q2 Z q1 q2 h0 n0 v U'.heap L ∧ FrameEnd U o U' L ({ frames := 0, cells := 0, slots := 0, locals := 0 } : Room).cells ({ frames := 0, cells := 0, slots := 0, locals := 0 } : Room).slots) := by
  refine MetFree.of_bodySF (plainFor_of_name pn_1) hisR ?_
  intro p e s m args below meth c s₁ Bd hml0 hP hK
  obtain ⟨rfl, hZ, hh⟩ := hP
  have hx := Bd.exec
  have hby := Bd.bytes
  have hml : c.maxLocals = 6 := hml0
  have hown : s.vm.findClass "com/example/dequeue/dequeue/model/DelayLevelTableDueAtMsPinLaw" = some m.cls := findClass_of_methodNamed Bd.named
  have hnm := (name_of_methodNamed Bd.named Bd.method).1
  have X0 : Stand p l e ({ frames := 0, cells := 0, slots := 0, locals := 0 } : Room) s m #[(.long q1), (.long q2)] below meth c s₁ [] 0 0 := Stand.of_body Bd
  have e0 : s₁.heap = h0 := by rw [← hh, Bd.state]; rfl
  have N0 := Fr.nil n0
  show Goes p e s below (fun v h L => Q2 Z q1 q2 h0 n0 v h L) ({ frames := 0, cells := 0, slots := 0, locals := 0 } : Room).cells ({ frames := 0, cells := 0, slots := 0, locals := 0 } : Room).slots (s₁.setTop (entryFrame m #[(.long q1), (.long q2)] 6))
  refine Goes.st (U' := s₁.setTop (mkF m 0 #[.val (.long q1), .second, .val (.long q2), .second, .unset, .unset] [])) (fun t k => castTop (ef_rm2 m q1 q2) k) ?_
  refine Goes.st (U' := s₁.setTop (mkF m 1 #[.val (.long q1), .second, .val (.long q2), .second, .unset, .unset] [(.long q1)])) (fun t k => XS.lloadN X0.here hx rfl (hb hby d2_0) rfl k) ?_
  refine Goes.st (U' := s₁.setTop (mkF m 2 #[.val (.long q1), .second, .val (.long q2), .second, .unset, .unset] [(.long q2), (.long q1)])) (fun t k => XS.lloadN X0.here hx rfl (hb hby d2_1) rfl k) ?_
  refine Goes.st (U' := s₁.setTop (mkF m 3 #[.val (.long q1), .second, .val (.long q2), .second, .unset, .unset] [(.long (q1 + q2))])) (fun t k => XS.ladd X0.here hx rfl (hb hby d2_2) rfl k) ?_
  refine Goes.st (U' := s₁.setTop (mkF m 5 #[.val (.long q1), .second, .val (.long q2), .second, .val (.long (q1 + q2)), .second] [])) (fun t k => XS.lstore X0.here hx rfl (hb hby d2_3) rfl (l' := #[.val (.long q1), .second, .val (.long q2), .second, .val (.long (q1 + q2)), .second]) rfl k) ?_
  refine Goes.st (U' := s₁.setTop (mkF m 7 #[.val (.long q1), .second, .val (.long q2), .second, .val (.long (q1 + q2)), .second] [(.long (q1 + q2))])) (fun t k => XS.lload X0.here hx rfl (hb hby d2_5) rfl k) ?_
  refine Goes.st (U' := s₁.setTop (mkF m 8 #[.val (.long q1), .second, .val (.long q2), .second, .val (.long (q1 + q2)), .second] [(.long q1), (.long (q1 + q2))])) (fun t k => XS.lloadN X0.here hx rfl (hb hby d2_7) rfl k) ?_
  refine Goes.st (U' := s₁.setTop (mkF m 9 #[.val (.long q1), .second, .val (.long q2), .second, .val (.long (q1 + q2)), .second] [(.int (lcmpW (q1 + q2) q1))])) (fun t k => XS.lcmp X0.here hx rfl (hb hby d2_8) rfl k) ?_
  rcases Decidable.em ((q1 + q2) < q1) with hc9 | hc9
  · refine Goes.st (U' := s₁.setTop (mkF m 12 #[.val (.long q1), .second, .val (.long q2), .second, .val (.long (q1 + q2)), .second] [])) (fun t k => XS.ifNo X0.here hx rfl (hb hby d2_9) rfl ((if0 _ _).trans (tlt ((lw_lt _ _).mpr hc9)).2.1) k) ?_
    refine Goes.st (U' := s₁.setTop (mkF m 15 #[.val (.long q1), .second, .val (.long q2), .second, .val (.long (q1 + q2)), .second] [(.long (9223372036854775807 : Int64))])) (fun t k => X0.ldc2Long hx hown (mvT hZ (hw _ (List.mem_of_getElem? (i := 0) rfl))) (g := (mkF m 12 #[.val (.long q1), .second, .val (.long q2), .second, .val (.long (q1 + q2)), .second] [])) rfl (hb hby d2_12) t k) ?_
    refine Goes.retJ X0 hx (BodyLoose.notSynchronized Bd) Bd.returns (hb hby d2_15) (by decide) (by decide) ?_
    show Q2 Z q1 q2 h0 n0 _ s₁.heap _
    rw [e0]
    exact ⟨(congrArg some (congrArg _ (by unfold fn2; rw [if_pos hc9]))), N0, rfl⟩
  · refine Goes.st (U' := s₁.setTop (mkF m 16 #[.val (.long q1), .second, .val (.long q2), .second, .val (.long (q1 + q2)), .second] [])) (fun t k => XS.ifYes X0.here hx rfl (pc0 := 9) (pc' := 16) rfl (hb hby d2_9) rfl ((if0 _ _).trans (flt (fun q => hc9 ((lw_lt _ _).mp q))).2.1) (by decide) (by decide) k) ?_
    refine Goes.st (U' := s₁.setTop (mkF m 18 #[.val (.long q1), .second, .val (.long q2), .second, .val (.long (q1 + q2)), .second] [(.long (q1 + q2))])) (fun t k => XS.lload X0.here hx rfl (hb hby d2_16) rfl k) ?_
    refine Goes.retJ X0 hx (BodyLoose.notSynchronized Bd) Bd.returns (hb hby d2_18) (by decide) (by decide) ?_
    show Q2 Z q1 q2 h0 n0 _ s₁.heap _
    rw [e0]
    exact ⟨(congrArg some (congrArg _ (by unfold fn2; rw [if_neg hc9]))), N0, rfl⟩
theorem pd_0 : parseMethodDescriptor "(JJ)J" = some ⟨[.long, .long], some .long⟩ := by decide +kernel
theorem ef_rm0 (m : MethodId) (q1 : Int64) (q2 : Int64) (p3 : Int32) : entryFrame m #[(.long q1), (.long q2), (.int p3)] maxLocals = mkF m 0 #[.val (.long q1), .second, .val (.long q2), .second, .val (.int p3), .unset, .unset, .unset, .unset, .unset, .unset, .unset] [] := by first | (simp [entryFrame, mkF, argsToLocals, Value.category, maxLocals]; done) | rfl
def fn0 (q1 : Int64) (q2 : Int64) (p3 : Int32) : Int32 := (if (p3 &&& (3 : Int32)) = (1 : Int32) then (if (fn1 ((9223372036854775807 : Int64) - (q2 &&& (9223372036854775807 : Int64))) (q2 &&& (9223372036854775807 : Int64))) = (fn2 ((9223372036854775807 : Int64) - (q2 &&& (9223372036854775807 : Int64))) (q2 &&& (9223372036854775807 : Int64))) then (1 : Int32) else (0 : Int32)) else (if (p3 &&& (3 : Int32)) = (2 : Int32) then (if (fn1 (((9223372036854775807 : Int64) - (q2 &&& (9223372036854775807 : Int64))) + (1 : Int64)) (q2 &&& (9223372036854775807 : Int64))) = (fn2 (((9223372036854775807 : Int64) - (q2 &&& (9223372036854775807 : Int64))) + (1 : Int64)) (q2 &&& (9223372036854775807 : Int64))) then (1 : Int32) else (0 : Int32)) else (if (p3 &&& (3 : Int32)) = (3 : Int32) then (if (fn1 ((-9223372036854775808 : Int64) + (q1 &&& (65535 : Int64))) (q2 &&& (9223372036854775807 : Int64))) = (fn2 ((-9223372036854775808 : Int64) + (q1 &&& (65535 : Int64))) (q2 &&& (9223372036854775807 : Int64))) then (1 : Int32) else (0 : Int32)) else (if (fn1 q1 (q2 &&& (9223372036854775807 : Int64))) = (fn2 q1 (q2 &&& (9223372036854775807 : Int64))) then (1 : Int32) else (0 : Int32)))))
def Q0 (Z : State) (q1 : Int64) (q2 : Int64) (p3 : Int32) (h0 : Heap) (n0 : Nat) (v : Option Value) (h : Heap) (L : List Loc) : Prop := v = some (.int (fn0 q1 q2 p3)) ∧ Fr n0 L ∧ h = h0
set_option maxRecDepth 65536 in
set_option maxHeartbeats 40000000 in
theorem rm0 (l : Launch) (Z : State) (a0 : Array Value) (hw : ∀ d ∈ tables_1, d.before a0 Z = true) (ws : List Jvm.Cond) (q1 : Int64) (q2 : Int64) (p3 : Int32) (h0 : Heap) (n0 : Nat) (Z0 : n0 ≤ h0.size) :
    MetFree l x (head1 (Jvm.Cond.code x code maxLocals ret :: ws) room_1) (fun a U => a = #[(.long q1), (.long q2), (.int p3)] ∧ Z.Warmed39 U.vm ∧ U.heap = h0) (fun _ _ _ _ _ => True) (fun _ U o U' => ∃ v L, o = .returned v ∧ Q0 Z q1 q2 p3 h0 n0 v U'.heap L ∧ FrameEnd U o U' L room_1.cells room_1.slots) := by
  refine MetFree.of_bodySF (plainFor_of_name pn_1) hisR ?_
  intro p e s m args below meth c s₁ Bd hml0 hP hK
  obtain ⟨rfl, hZ, hh⟩ := hP
  have hx := Bd.exec
  have hby := Bd.bytes
  have hml : c.maxLocals = 12 := hml0
  have hown : s.vm.findClass "com/example/dequeue/dequeue/model/DelayLevelTableDueAtMsPinLaw" = some m.cls := findClass_of_methodNamed Bd.named
  have hnm := (name_of_methodNamed Bd.named Bd.method).1
  have X0 : Stand p l e room_1 s m #[(.long q1), (.long q2), (.int p3)] below meth c s₁ [] 0 0 := Stand.of_body Bd
  have e0 : s₁.heap = h0 := by rw [← hh, Bd.state]; rfl
  have N0 := Fr.nil n0
  show Goes p e s below (fun v h L => Q0 Z q1 q2 p3 h0 n0 v h L) room_1.cells room_1.slots (s₁.setTop (entryFrame m #[(.long q1), (.long q2), (.int p3)] maxLocals))
  refine Goes.st (U' := s₁.setTop (mkF m 0 #[.val (.long q1), .second, .val (.long q2), .second, .val (.int p3), .unset, .unset, .unset, .unset, .unset, .unset, .unset] [])) (fun t k => castTop (ef_rm0 m q1 q2 p3) k) ?_
  refine Goes.st (U' := s₁.setTop (mkF m 1 #[.val (.long q1), .second, .val (.long q2), .second, .val (.int p3), .unset, .unset, .unset, .unset, .unset, .unset, .unset] [(.long q2)])) (fun t k => XS.lloadN X0.here hx rfl (hb hby at_0) rfl k) ?_
  refine Goes.st (U' := s₁.setTop (mkF m 4 #[.val (.long q1), .second, .val (.long q2), .second, .val (.int p3), .unset, .unset, .unset, .unset, .unset, .unset, .unset] [(.long (9223372036854775807 : Int64)), (.long q2)])) (fun t k => X0.ldc2Long hx hown (mvT hZ (hw _ (List.mem_of_getElem? (i := 0) rfl))) (g := (mkF m 1 #[.val (.long q1), .second, .val (.long q2), .second, .val (.int p3), .unset, .unset, .unset, .unset, .unset, .unset, .unset] [(.long q2)])) rfl (hb hby at_1) t k) ?_
  refine Goes.st (U' := s₁.setTop (mkF m 5 #[.val (.long q1), .second, .val (.long q2), .second, .val (.int p3), .unset, .unset, .unset, .unset, .unset, .unset, .unset] [(.long (q2 &&& (9223372036854775807 : Int64)))])) (fun t k => XS.land X0.here hx rfl (hb hby at_4) rfl k) ?_
  refine Goes.st (U' := s₁.setTop (mkF m 7 #[.val (.long q1), .second, .val (.long q2), .second, .val (.int p3), .val (.long (q2 &&& (9223372036854775807 : Int64))), .second, .unset, .unset, .unset, .unset, .unset] [])) (fun t k => XS.lstore X0.here hx rfl (hb hby at_5) rfl (l' := #[.val (.long q1), .second, .val (.long q2), .second, .val (.int p3), .val (.long (q2 &&& (9223372036854775807 : Int64))), .second, .unset, .unset, .unset, .unset, .unset]) rfl k) ?_
  refine Goes.st (U' := s₁.setTop (mkF m 9 #[.val (.long q1), .second, .val (.long q2), .second, .val (.int p3), .val (.long (q2 &&& (9223372036854775807 : Int64))), .second, .unset, .unset, .unset, .unset, .unset] [(.int p3)])) (fun t k => XS.iload X0.here hx rfl (hb hby at_7) rfl k) ?_
  refine Goes.st (U' := s₁.setTop (mkF m 10 #[.val (.long q1), .second, .val (.long q2), .second, .val (.int p3), .val (.long (q2 &&& (9223372036854775807 : Int64))), .second, .unset, .unset, .unset, .unset, .unset] [(.int (3 : Int32)), (.int p3)])) (fun t k => XS.iconst X0.here hx rfl (hb hby at_9) k) ?_
  refine Goes.st (U' := s₁.setTop (mkF m 11 #[.val (.long q1), .second, .val (.long q2), .second, .val (.int p3), .val (.long (q2 &&& (9223372036854775807 : Int64))), .second, .unset, .unset, .unset, .unset, .unset] [(.int (p3 &&& (3 : Int32)))])) (fun t k => XS.iand X0.here hx rfl (hb hby at_10) rfl k) ?_
  refine Goes.st (U' := s₁.setTop (mkF m 13 #[.val (.long q1), .second, .val (.long q2), .second, .val (.int p3), .val (.long (q2 &&& (9223372036854775807 : Int64))), .second, .val (.int (p3 &&& (3 : Int32))), .unset, .unset, .unset, .unset] [])) (fun t k => XS.istore X0.here hx rfl (hb hby at_11) rfl (l' := #[.val (.long q1), .second, .val (.long q2), .second, .val (.int p3), .val (.long (q2 &&& (9223372036854775807 : Int64))), .second, .val (.int (p3 &&& (3 : Int32))), .unset, .unset, .unset, .unset]) rfl k) ?_
  refine Goes.st (U' := s₁.setTop (mkF m 15 #[.val (.long q1), .second, .val (.long q2), .second, .val (.int p3), .val (.long (q2 &&& (9223372036854775807 : Int64))), .second, .val (.int (p3 &&& (3 : Int32))), .unset, .unset, .unset, .unset] [(.int (p3 &&& (3 : Int32)))])) (fun t k => XS.iload X0.here hx rfl (hb hby at_13) rfl k) ?_
  refine Goes.st (U' := s₁.setTop (mkF m 16 #[.val (.long q1), .second, .val (.long q2), .second, .val (.int p3), .val (.long (q2 &&& (9223372036854775807 : Int64))), .second, .val (.int (p3 &&& (3 : Int32))), .unset, .unset, .unset, .unset] [(.int (1 : Int32)), (.int (p3 &&& (3 : Int32)))])) (fun t k => XS.iconst X0.here hx rfl (hb hby at_15) k) ?_
  rcases Decidable.em ((p3 &&& (3 : Int32)) = (1 : Int32)) with hc16 | hc16
  · refine Goes.st (U' := s₁.setTop (mkF m 19 #[.val (.long q1), .second, .val (.long q2), .second, .val (.int p3), .val (.long (q2 &&& (9223372036854775807 : Int64))), .second, .val (.int (p3 &&& (3 : Int32))), .unset, .unset, .unset, .unset] [])) (fun t k => XS.icmpNo X0.here hx rfl (hb hby at_16) rfl (teq hc16).2 k) ?_
    refine Goes.st (U' := s₁.setTop (mkF m 22 #[.val (.long q1), .second, .val (.long q2), .second, .val (.int p3), .val (.long (q2 &&& (9223372036854775807 : Int64))), .second, .val (.int (p3 &&& (3 : Int32))), .unset, .unset, .unset, .unset] [(.long (9223372036854775807 : Int64))])) (fun t k => X0.ldc2Long hx hown (mvT hZ (hw _ (List.mem_of_getElem? (i := 0) rfl))) (g := (mkF m 19 #[.val (.long q1), .second, .val (.long q2), .second, .val (.int p3), .val (.long (q2 &&& (9223372036854775807 : Int64))), .second, .val (.int (p3 &&& (3 : Int32))), .unset, .unset, .unset, .unset] [])) rfl (hb hby at_19) t k) ?_
    refine Goes.st (U' := s₁.setTop (mkF m 24 #[.val (.long q1), .second, .val (.long q2), .second, .val (.int p3), .val (.long (q2 &&& (9223372036854775807 : Int64))), .second, .val (.int (p3 &&& (3 : Int32))), .unset, .unset, .unset, .unset] [(.long (q2 &&& (9223372036854775807 : Int64))), (.long (9223372036854775807 : Int64))])) (fun t k => XS.lload X0.here hx rfl (hb hby at_22) rfl k) ?_
    refine Goes.st (U' := s₁.setTop (mkF m 25 #[.val (.long q1), .second, .val (.long q2), .second, .val (.int p3), .val (.long (q2 &&& (9223372036854775807 : Int64))), .second, .val (.int (p3 &&& (3 : Int32))), .unset, .unset, .unset, .unset] [(.long ((9223372036854775807 : Int64) - (q2 &&& (9223372036854775807 : Int64))))])) (fun t k => XS.lsub X0.here hx rfl (hb hby at_24) rfl k) ?_
    refine Goes.st (U' := s₁.setTop (mkF m 27 #[.val (.long q1), .second, .val (.long q2), .second, .val (.int p3), .val (.long (q2 &&& (9223372036854775807 : Int64))), .second, .val (.int (p3 &&& (3 : Int32))), .val (.long ((9223372036854775807 : Int64) - (q2 &&& (9223372036854775807 : Int64)))), .second, .unset, .unset] [])) (fun t k => XS.lstore X0.here hx rfl (hb hby at_25) rfl (l' := #[.val (.long q1), .second, .val (.long q2), .second, .val (.int p3), .val (.long (q2 &&& (9223372036854775807 : Int64))), .second, .val (.int (p3 &&& (3 : Int32))), .val (.long ((9223372036854775807 : Int64) - (q2 &&& (9223372036854775807 : Int64)))), .second, .unset, .unset]) rfl k) ?_
    refine Goes.st (U' := s₁.setTop (mkF m 72 #[.val (.long q1), .second, .val (.long q2), .second, .val (.int p3), .val (.long (q2 &&& (9223372036854775807 : Int64))), .second, .val (.int (p3 &&& (3 : Int32))), .val (.long ((9223372036854775807 : Int64) - (q2 &&& (9223372036854775807 : Int64)))), .second, .unset, .unset] [])) (fun t k => XS.goto X0.here hx rfl (pc0 := 27) (pc' := 72) rfl (hb hby at_27) (by decide) (by decide) k) ?_
    refine Goes.st (U' := s₁.setTop (mkF m 74 #[.val (.long q1), .second, .val (.long q2), .second, .val (.int p3), .val (.long (q2 &&& (9223372036854775807 : Int64))), .second, .val (.int (p3 &&& (3 : Int32))), .val (.long ((9223372036854775807 : Int64) - (q2 &&& (9223372036854775807 : Int64)))), .second, .unset, .unset] [(.long ((9223372036854775807 : Int64) - (q2 &&& (9223372036854775807 : Int64))))])) (fun t k => XS.lload X0.here hx rfl (hb hby at_72) rfl k) ?_
    refine Goes.st (U' := s₁.setTop (mkF m 76 #[.val (.long q1), .second, .val (.long q2), .second, .val (.int p3), .val (.long (q2 &&& (9223372036854775807 : Int64))), .second, .val (.int (p3 &&& (3 : Int32))), .val (.long ((9223372036854775807 : Int64) - (q2 &&& (9223372036854775807 : Int64)))), .second, .unset, .unset] [(.long (q2 &&& (9223372036854775807 : Int64))), (.long ((9223372036854775807 : Int64) - (q2 &&& (9223372036854775807 : Int64))))])) (fun t k => XS.lload X0.here hx rfl (hb hby at_74) rfl k) ?_
    obtain ⟨_, _, ⟨T1, L1, k1, n1⟩, -, X1, ⟨Lc1, hQ1, l1, y1, z1⟩, st1⟩ := Jvm.LawKit.callS X0 hx (y := (⟨"com/example/dequeue/dequeue/model/DelayLevelTable", "dueAtMs", "(JJ)J"⟩ : MethodName)) hown (mvT hZ (hw _ (List.mem_of_getElem? (i := 1) rfl))) (mvT hZ (hw _ (List.mem_of_getElem? (i := 2) rfl))) (mvT hZ (hw _ (List.mem_of_getElem? (i := 3) rfl))) (mvT hZ (hw _ (List.mem_of_getElem? (i := 4) rfl))) (by decide) (backOf (W := 0) (rm1 l Z a0 hw [] ((9223372036854775807 : Int64) - (q2 &&& (9223372036854775807 : Int64))) (q2 &&& (9223372036854775807 : Int64)) h0 n0 Z0) hZ (hw _ (List.mem_of_getElem? (i := 4) rfl)) (hw _ (List.mem_of_getElem? (i := 3) rfl)) (by decide) (by decide)) (g := (mkF m 76 #[.val (.long q1), .second, .val (.long q2), .second, .val (.int p3), .val (.long (q2 &&& (9223372036854775807 : Int64))), .second, .val (.int (p3 &&& (3 : Int32))), .val (.long ((9223372036854775807 : Int64) - (q2 &&& (9223372036854775807 : Int64)))), .second, .unset, .unset] [(.long (q2 &&& (9223372036854775807 : Int64))), (.long ((9223372036854775807 : Int64) - (q2 &&& (9223372036854775807 : Int64))))])) rfl (by rw [hml]; rfl) (argsL := [(.long ((9223372036854775807 : Int64) - (q2 &&& (9223372036854775807 : Int64)))), (.long (q2 &&& (9223372036854775807 : Int64)))]) (rest := []) (lenOf pd_0 rfl) rfl (by show 2 * 0 + _ ≤ _; exact Nat.le_of_eq rfl) (hb hby at_76) (fun _ _ => ⟨rfl, e0, (by decide : 0 + 0 ≤ _), (by decide : 0 + 0 ≤ _)⟩)
    dsimp only [Pt.U, Pt.locs, Pt.cells, Pt.slots] at X1 l1 y1 z1 st1 hQ1
    subst l1 y1 z1
    obtain ⟨rfl, N1q, e1⟩ := hQ1
    have N1 := Fr.app N0 N1q
    refine Goes.st (U' := T1.setTop (mkF m 79 #[.val (.long q1), .second, .val (.long q2), .second, .val (.int p3), .val (.long (q2 &&& (9223372036854775807 : Int64))), .second, .val (.int (p3 &&& (3 : Int32))), .val (.long ((9223372036854775807 : Int64) - (q2 &&& (9223372036854775807 : Int64)))), .second, .unset, .unset] [(.long (fn1 ((9223372036854775807 : Int64) - (q2 &&& (9223372036854775807 : Int64))) (q2 &&& (9223372036854775807 : Int64))))])) st1 ?_
    refine Goes.st (U' := T1.setTop (mkF m 81 #[.val (.long q1), .second, .val (.long q2), .second, .val (.int p3), .val (.long (q2 &&& (9223372036854775807 : Int64))), .second, .val (.int (p3 &&& (3 : Int32))), .val (.long ((9223372036854775807 : Int64) - (q2 &&& (9223372036854775807 : Int64)))), .second, .val (.long (fn1 ((9223372036854775807 : Int64) - (q2 &&& (9223372036854775807 : Int64))) (q2 &&& (9223372036854775807 : Int64)))), .second] [])) (fun t k => XS.lstore X1.here hx rfl (hb hby at_79) rfl (l' := #[.val (.long q1), .second, .val (.long q2), .second, .val (.int p3), .val (.long (q2 &&& (9223372036854775807 : Int64))), .second, .val (.int (p3 &&& (3 : Int32))), .val (.long ((9223372036854775807 : Int64) - (q2 &&& (9223372036854775807 : Int64)))), .second, .val (.long (fn1 ((9223372036854775807 : Int64) - (q2 &&& (9223372036854775807 : Int64))) (q2 &&& (9223372036854775807 : Int64)))), .second]) rfl k) ?_
    refine Goes.st (U' := T1.setTop (mkF m 83 #[.val (.long q1), .second, .val (.long q2), .second, .val (.int p3), .val (.long (q2 &&& (9223372036854775807 : Int64))), .second, .val (.int (p3 &&& (3 : Int32))), .val (.long ((9223372036854775807 : Int64) - (q2 &&& (9223372036854775807 : Int64)))), .second, .val (.long (fn1 ((9223372036854775807 : Int64) - (q2 &&& (9223372036854775807 : Int64))) (q2 &&& (9223372036854775807 : Int64)))), .second] [(.long (fn1 ((9223372036854775807 : Int64) - (q2 &&& (9223372036854775807 : Int64))) (q2 &&& (9223372036854775807 : Int64))))])) (fun t k => XS.lload X1.here hx rfl (hb hby at_81) rfl k) ?_
    refine Goes.st (U' := T1.setTop (mkF m 85 #[.val (.long q1), .second, .val (.long q2), .second, .val (.int p3), .val (.long (q2 &&& (9223372036854775807 : Int64))), .second, .val (.int (p3 &&& (3 : Int32))), .val (.long ((9223372036854775807 : Int64) - (q2 &&& (9223372036854775807 : Int64)))), .second, .val (.long (fn1 ((9223372036854775807 : Int64) - (q2 &&& (9223372036854775807 : Int64))) (q2 &&& (9223372036854775807 : Int64)))), .second] [(.long ((9223372036854775807 : Int64) - (q2 &&& (9223372036854775807 : Int64)))), (.long (fn1 ((9223372036854775807 : Int64) - (q2 &&& (9223372036854775807 : Int64))) (q2 &&& (9223372036854775807 : Int64))))])) (fun t k => XS.lload X1.here hx rfl (hb hby at_83) rfl k) ?_
    refine Goes.st (U' := T1.setTop (mkF m 87 #[.val (.long q1), .second, .val (.long q2), .second, .val (.int p3), .val (.long (q2 &&& (9223372036854775807 : Int64))), .second, .val (.int (p3 &&& (3 : Int32))), .val (.long ((9223372036854775807 : Int64) - (q2 &&& (9223372036854775807 : Int64)))), .second, .val (.long (fn1 ((9223372036854775807 : Int64) - (q2 &&& (9223372036854775807 : Int64))) (q2 &&& (9223372036854775807 : Int64)))), .second] [(.long (q2 &&& (9223372036854775807 : Int64))), (.long ((9223372036854775807 : Int64) - (q2 &&& (9223372036854775807 : Int64)))), (.long (fn1 ((9223372036854775807 : Int64) - (q2 &&& (9223372036854775807 : Int64))) (q2 &&& (9223372036854775807 : Int64))))])) (fun t k => XS.lload X1.here hx rfl (hb hby at_85) rfl k) ?_
    obtain ⟨_, _, ⟨T2, L2, k2, n2⟩, -, X2, ⟨Lc2, hQ2, l2, y2, z2⟩, st2⟩ := Jvm.LawKit.callS X1 hx (y := (⟨"com/example/dequeue/dequeue/model/DelayLevelTableDueAtMsPinLaw", "expected", "(JJ)J"⟩ : MethodName)) hown (mvT hZ (hw _ (List.mem_of_getElem? (i := 6) rfl))) (mvT hZ (hw _ (List.mem_of_getElem? (i := 7) rfl))) (mvT hZ (hw _ (List.mem_of_getElem? (i := 8) rfl))) (mvT hZ (hw _ (List.mem_of_getElem? (i := 9) rfl))) (by decide) (backOf (W := 2) (rm2 l Z a0 hw [] ((9223372036854775807 : Int64) - (q2 &&& (9223372036854775807 : Int64))) (q2 &&& (9223372036854775807 : Int64)) h0 n0 Z0) hZ (hw _ (List.mem_of_getElem? (i := 9) rfl)) (hw _ (List.mem_of_getElem? (i := 8) rfl)) (by decide) (by decide)) (g := (mkF m 87 #[.val (.long q1), .second, .val (.long q2), .second, .val (.int p3), .val (.long (q2 &&& (9223372036854775807 : Int64))), .second, .val (.int (p3 &&& (3 : Int32))), .val (.long ((9223372036854775807 : Int64) - (q2 &&& (9223372036854775807 : Int64)))), .second, .val (.long (fn1 ((9223372036854775807 : Int64) - (q2 &&& (9223372036854775807 : Int64))) (q2 &&& (9223372036854775807 : Int64)))), .second] [(.long (q2 &&& (9223372036854775807 : Int64))), (.long ((9223372036854775807 : Int64) - (q2 &&& (9223372036854775807 : Int64)))), (.long (fn1 ((9223372036854775807 : Int64) - (q2 &&& (9223372036854775807 : Int64))) (q2 &&& (9223372036854775807 : Int64))))])) rfl (by rw [hml]; rfl) (argsL := [(.long ((9223372036854775807 : Int64) - (q2 &&& (9223372036854775807 : Int64)))), (.long (q2 &&& (9223372036854775807 : Int64)))]) (rest := [(.long (fn1 ((9223372036854775807 : Int64) - (q2 &&& (9223372036854775807 : Int64))) (q2 &&& (9223372036854775807 : Int64))))]) (lenOf pd_0 rfl) rfl (by show 2 * 0 + _ ≤ _; exact Nat.le_of_eq rfl) (hb hby at_87) (fun _ _ => ⟨rfl, e1, (by decide : 0 + 0 ≤ _), (by decide : 0 + 0 ≤ _)⟩)
    dsimp only [Pt.U, Pt.locs, Pt.cells, Pt.slots] at X2 l2 y2 z2 st2 hQ2
    subst l2 y2 z2
    obtain ⟨rfl, N2q, e2⟩ := hQ2
    have N2 := Fr.app N1 N2q
    refine Goes.st (U' := T2.setTop (mkF m 90 #[.val (.long q1), .second, .val (.long q2), .second, .val (.int p3), .val (.long (q2 &&& (9223372036854775807 : Int64))), .second, .val (.int (p3 &&& (3 : Int32))), .val (.long ((9223372036854775807 : Int64) - (q2 &&& (9223372036854775807 : Int64)))), .second, .val (.long (fn1 ((9223372036854775807 : Int64) - (q2 &&& (9223372036854775807 : Int64))) (q2 &&& (9223372036854775807 : Int64)))), .second] [(.long (fn2 ((9223372036854775807 : Int64) - (q2 &&& (9223372036854775807 : Int64))) (q2 &&& (9223372036854775807 : Int64)))), (.long (fn1 ((9223372036854775807 : Int64) - (q2 &&& (9223372036854775807 : Int64))) (q2 &&& (9223372036854775807 : Int64))))])) st2 ?_
    refine Goes.st (U' := T2.setTop (mkF m 91 #[.val (.long q1), .second, .val (.long q2), .second, .val (.int p3), .val (.long (q2 &&& (9223372036854775807 : Int64))), .second, .val (.int (p3 &&& (3 : Int32))), .val (.long ((9223372036854775807 : Int64) - (q2 &&& (9223372036854775807 : Int64)))), .second, .val (.long (fn1 ((9223372036854775807 : Int64) - (q2 &&& (9223372036854775807 : Int64))) (q2 &&& (9223372036854775807 : Int64)))), .second] [(.int (lcmpW (fn1 ((9223372036854775807 : Int64) - (q2 &&& (9223372036854775807 : Int64))) (q2 &&& (9223372036854775807 : Int64))) (fn2 ((9223372036854775807 : Int64) - (q2 &&& (9223372036854775807 : Int64))) (q2 &&& (9223372036854775807 : Int64)))))])) (fun t k => XS.lcmp X2.here hx rfl (hb hby at_90) rfl k) ?_
    rcases Decidable.em ((fn1 ((9223372036854775807 : Int64) - (q2 &&& (9223372036854775807 : Int64))) (q2 &&& (9223372036854775807 : Int64))) = (fn2 ((9223372036854775807 : Int64) - (q2 &&& (9223372036854775807 : Int64))) (q2 &&& (9223372036854775807 : Int64)))) with hc91 | hc91
    · refine Goes.st (U' := T2.setTop (mkF m 94 #[.val (.long q1), .second, .val (.long q2), .second, .val (.int p3), .val (.long (q2 &&& (9223372036854775807 : Int64))), .second, .val (.int (p3 &&& (3 : Int32))), .val (.long ((9223372036854775807 : Int64) - (q2 &&& (9223372036854775807 : Int64)))), .second, .val (.long (fn1 ((9223372036854775807 : Int64) - (q2 &&& (9223372036854775807 : Int64))) (q2 &&& (9223372036854775807 : Int64)))), .second] [])) (fun t k => XS.ifNo X2.here hx rfl (hb hby at_91) rfl ((if0 _ _).trans (teq ((lw_eq _ _).mpr hc91)).2) k) ?_
      refine Goes.st (U' := T2.setTop (mkF m 95 #[.val (.long q1), .second, .val (.long q2), .second, .val (.int p3), .val (.long (q2 &&& (9223372036854775807 : Int64))), .second, .val (.int (p3 &&& (3 : Int32))), .val (.long ((9223372036854775807 : Int64) - (q2 &&& (9223372036854775807 : Int64)))), .second, .val (.long (fn1 ((9223372036854775807 : Int64) - (q2 &&& (9223372036854775807 : Int64))) (q2 &&& (9223372036854775807 : Int64)))), .second] [(.int (1 : Int32))])) (fun t k => XS.iconst X2.here hx rfl (hb hby at_94) k) ?_
      refine Goes.st (U' := T2.setTop (mkF m 99 #[.val (.long q1), .second, .val (.long q2), .second, .val (.int p3), .val (.long (q2 &&& (9223372036854775807 : Int64))), .second, .val (.int (p3 &&& (3 : Int32))), .val (.long ((9223372036854775807 : Int64) - (q2 &&& (9223372036854775807 : Int64)))), .second, .val (.long (fn1 ((9223372036854775807 : Int64) - (q2 &&& (9223372036854775807 : Int64))) (q2 &&& (9223372036854775807 : Int64)))), .second] [(.int (1 : Int32))])) (fun t k => XS.goto X2.here hx rfl (pc0 := 95) (pc' := 99) rfl (hb hby at_95) (by decide) (by decide) k) ?_
      refine Goes.retZ X2 hx (BodyLoose.notSynchronized Bd) Bd.returns (hb hby at_99) rfl (by decide) (by decide) ?_
      show Q0 Z q1 q2 p3 h0 n0 _ T2.heap _
      rw [e2]
      exact ⟨(congrArg some (congrArg _ (by unfold fn0; rw [if_pos hc16]; rw [if_pos hc91]))), N2, rfl⟩
    · refine Goes.st (U' := T2.setTop (mkF m 98 #[.val (.long q1), .second, .val (.long q2), .second, .val (.int p3), .val (.long (q2 &&& (9223372036854775807 : Int64))), .second, .val (.int (p3 &&& (3 : Int32))), .val (.long ((9223372036854775807 : Int64) - (q2 &&& (9223372036854775807 : Int64)))), .second, .val (.long (fn1 ((9223372036854775807 : Int64) - (q2 &&& (9223372036854775807 : Int64))) (q2 &&& (9223372036854775807 : Int64)))), .second] [])) (fun t k => XS.ifYes X2.here hx rfl (pc0 := 91) (pc' := 98) rfl (hb hby at_91) rfl ((if0 _ _).trans (feq (fun q => hc91 ((lw_eq _ _).mp q))).2) (by decide) (by decide) k) ?_
      refine Goes.st (U' := T2.setTop (mkF m 99 #[.val (.long q1), .second, .val (.long q2), .second, .val (.int p3), .val (.long (q2 &&& (9223372036854775807 : Int64))), .second, .val (.int (p3 &&& (3 : Int32))), .val (.long ((9223372036854775807 : Int64) - (q2 &&& (9223372036854775807 : Int64)))), .second, .val (.long (fn1 ((9223372036854775807 : Int64) - (q2 &&& (9223372036854775807 : Int64))) (q2 &&& (9223372036854775807 : Int64)))), .second] [(.int (0 : Int32))])) (fun t k => XS.iconst X2.here hx rfl (hb hby at_98) k) ?_
      refine Goes.retZ X2 hx (BodyLoose.notSynchronized Bd) Bd.returns (hb hby at_99) rfl (by decide) (by decide) ?_
      show Q0 Z q1 q2 p3 h0 n0 _ T2.heap _
      rw [e2]
      exact ⟨(congrArg some (congrArg _ (by unfold fn0; rw [if_pos hc16]; rw [if_neg hc91]))), N2, rfl⟩
  · refine Goes.st (U' := s₁.setTop (mkF m 30 #[.val (.long q1), .second, .val (.long q2), .second, .val (.int p3), .val (.long (q2 &&& (9223372036854775807 : Int64))), .second, .val (.int (p3 &&& (3 : Int32))), .unset, .unset, .unset, .unset] [])) (fun t k => XS.icmpYes X0.here hx rfl (pc0 := 16) (pc' := 30) rfl (hb hby at_16) rfl (feq hc16).2 (by decide) (by decide) k) ?_
    refine Goes.st (U' := s₁.setTop (mkF m 32 #[.val (.long q1), .second, .val (.long q2), .second, .val (.int p3), .val (.long (q2 &&& (9223372036854775807 : Int64))), .second, .val (.int (p3 &&& (3 : Int32))), .unset, .unset, .unset, .unset] [(.int (p3 &&& (3 : Int32)))])) (fun t k => XS.iload X0.here hx rfl (hb hby at_30) rfl k) ?_
    refine Goes.st (U' := s₁.setTop (mkF m 33 #[.val (.long q1), .second, .val (.long q2), .second, .val (.int p3), .val (.long (q2 &&& (9223372036854775807 : Int64))), .second, .val (.int (p3 &&& (3 : Int32))), .unset, .unset, .unset, .unset] [(.int (2 : Int32)), (.int (p3 &&& (3 : Int32)))])) (fun t k => XS.iconst X0.here hx rfl (hb hby at_32) k) ?_
    rcases Decidable.em ((p3 &&& (3 : Int32)) = (2 : Int32)) with hc33 | hc33
    · refine Goes.st (U' := s₁.setTop (mkF m 36 #[.val (.long q1), .second, .val (.long q2), .second, .val (.int p3), .val (.long (q2 &&& (9223372036854775807 : Int64))), .second, .val (.int (p3 &&& (3 : Int32))), .unset, .unset, .unset, .unset] [])) (fun t k => XS.icmpNo X0.here hx rfl (hb hby at_33) rfl (teq hc33).2 k) ?_
      refine Goes.st (U' := s₁.setTop (mkF m 39 #[.val (.long q1), .second, .val (.long q2), .second, .val (.int p3), .val (.long (q2 &&& (9223372036854775807 : Int64))), .second, .val (.int (p3 &&& (3 : Int32))), .unset, .unset, .unset, .unset] [(.long (9223372036854775807 : Int64))])) (fun t k => X0.ldc2Long hx hown (mvT hZ (hw _ (List.mem_of_getElem? (i := 0) rfl))) (g := (mkF m 36 #[.val (.long q1), .second, .val (.long q2), .second, .val (.int p3), .val (.long (q2 &&& (9223372036854775807 : Int64))), .second, .val (.int (p3 &&& (3 : Int32))), .unset, .unset, .unset, .unset] [])) rfl (hb hby at_36) t k) ?_
      refine Goes.st (U' := s₁.setTop (mkF m 41 #[.val (.long q1), .second, .val (.long q2), .second, .val (.int p3), .val (.long (q2 &&& (9223372036854775807 : Int64))), .second, .val (.int (p3 &&& (3 : Int32))), .unset, .unset, .unset, .unset] [(.long (q2 &&& (9223372036854775807 : Int64))), (.long (9223372036854775807 : Int64))])) (fun t k => XS.lload X0.here hx rfl (hb hby at_39) rfl k) ?_
      refine Goes.st (U' := s₁.setTop (mkF m 42 #[.val (.long q1), .second, .val (.long q2), .second, .val (.int p3), .val (.long (q2 &&& (9223372036854775807 : Int64))), .second, .val (.int (p3 &&& (3 : Int32))), .unset, .unset, .unset, .unset] [(.long ((9223372036854775807 : Int64) - (q2 &&& (9223372036854775807 : Int64))))])) (fun t k => XS.lsub X0.here hx rfl (hb hby at_41) rfl k) ?_
      refine Goes.st (U' := s₁.setTop (mkF m 43 #[.val (.long q1), .second, .val (.long q2), .second, .val (.int p3), .val (.long (q2 &&& (9223372036854775807 : Int64))), .second, .val (.int (p3 &&& (3 : Int32))), .unset, .unset, .unset, .unset] [(.long (1 : Int64)), (.long ((9223372036854775807 : Int64) - (q2 &&& (9223372036854775807 : Int64))))])) (fun t k => XS.lconst X0.here hx rfl (hb hby at_42) k) ?_
      refine Goes.st (U' := s₁.setTop (mkF m 44 #[.val (.long q1), .second, .val (.long q2), .second, .val (.int p3), .val (.long (q2 &&& (9223372036854775807 : Int64))), .second, .val (.int (p3 &&& (3 : Int32))), .unset, .unset, .unset, .unset] [(.long (((9223372036854775807 : Int64) - (q2 &&& (9223372036854775807 : Int64))) + (1 : Int64)))])) (fun t k => XS.ladd X0.here hx rfl (hb hby at_43) rfl k) ?_
      refine Goes.st (U' := s₁.setTop (mkF m 46 #[.val (.long q1), .second, .val (.long q2), .second, .val (.int p3), .val (.long (q2 &&& (9223372036854775807 : Int64))), .second, .val (.int (p3 &&& (3 : Int32))), .val (.long (((9223372036854775807 : Int64) - (q2 &&& (9223372036854775807 : Int64))) + (1 : Int64))), .second, .unset, .unset] [])) (fun t k => XS.lstore X0.here hx rfl (hb hby at_44) rfl (l' := #[.val (.long q1), .second, .val (.long q2), .second, .val (.int p3), .val (.long (q2 &&& (9223372036854775807 : Int64))), .second, .val (.int (p3 &&& (3 : Int32))), .val (.long (((9223372036854775807 : Int64) - (q2 &&& (9223372036854775807 : Int64))) + (1 : Int64))), .second, .unset, .unset]) rfl k) ?_
      refine Goes.st (U' := s₁.setTop (mkF m 72 #[.val (.long q1), .second, .val (.long q2), .second, .val (.int p3), .val (.long (q2 &&& (9223372036854775807 : Int64))), .second, .val (.int (p3 &&& (3 : Int32))), .val (.long (((9223372036854775807 : Int64) - (q2 &&& (9223372036854775807 : Int64))) + (1 : Int64))), .second, .unset, .unset] [])) (fun t k => XS.goto X0.here hx rfl (pc0 := 46) (pc' := 72) rfl (hb hby at_46) (by decide) (by decide) k) ?_
      refine Goes.st (U' := s₁.setTop (mkF m 74 #[.val (.long q1), .second, .val (.long q2), .second, .val (.int p3), .val (.long (q2 &&& (9223372036854775807 : Int64))), .second, .val (.int (p3 &&& (3 : Int32))), .val (.long (((9223372036854775807 : Int64) - (q2 &&& (9223372036854775807 : Int64))) + (1 : Int64))), .second, .unset, .unset] [(.long (((9223372036854775807 : Int64) - (q2 &&& (9223372036854775807 : Int64))) + (1 : Int64)))])) (fun t k => XS.lload X0.here hx rfl (hb hby at_72) rfl k) ?_
      refine Goes.st (U' := s₁.setTop (mkF m 76 #[.val (.long q1), .second, .val (.long q2), .second, .val (.int p3), .val (.long (q2 &&& (9223372036854775807 : Int64))), .second, .val (.int (p3 &&& (3 : Int32))), .val (.long (((9223372036854775807 : Int64) - (q2 &&& (9223372036854775807 : Int64))) + (1 : Int64))), .second, .unset, .unset] [(.long (q2 &&& (9223372036854775807 : Int64))), (.long (((9223372036854775807 : Int64) - (q2 &&& (9223372036854775807 : Int64))) + (1 : Int64)))])) (fun t k => XS.lload X0.here hx rfl (hb hby at_74) rfl k) ?_
      obtain ⟨_, _, ⟨T3, L3, k3, n3⟩, -, X3, ⟨Lc3, hQ3, l3, y3, z3⟩, st3⟩ := Jvm.LawKit.callS X0 hx (y := (⟨"com/example/dequeue/dequeue/model/DelayLevelTable", "dueAtMs", "(JJ)J"⟩ : MethodName)) hown (mvT hZ (hw _ (List.mem_of_getElem? (i := 1) rfl))) (mvT hZ (hw _ (List.mem_of_getElem? (i := 2) rfl))) (mvT hZ (hw _ (List.mem_of_getElem? (i := 3) rfl))) (mvT hZ (hw _ (List.mem_of_getElem? (i := 4) rfl))) (by decide) (backOf (W := 0) (rm1 l Z a0 hw [] (((9223372036854775807 : Int64) - (q2 &&& (9223372036854775807 : Int64))) + (1 : Int64)) (q2 &&& (9223372036854775807 : Int64)) h0 n0 Z0) hZ (hw _ (List.mem_of_getElem? (i := 4) rfl)) (hw _ (List.mem_of_getElem? (i := 3) rfl)) (by decide) (by decide)) (g := (mkF m 76 #[.val (.long q1), .second, .val (.long q2), .second, .val (.int p3), .val (.long (q2 &&& (9223372036854775807 : Int64))), .second, .val (.int (p3 &&& (3 : Int32))), .val (.long (((9223372036854775807 : Int64) - (q2 &&& (9223372036854775807 : Int64))) + (1 : Int64))), .second, .unset, .unset] [(.long (q2 &&& (9223372036854775807 : Int64))), (.long (((9223372036854775807 : Int64) - (q2 &&& (9223372036854775807 : Int64))) + (1 : Int64)))])) rfl (by rw [hml]; rfl) (argsL := [(.long (((9223372036854775807 : Int64) - (q2 &&& (9223372036854775807 : Int64))) + (1 : Int64))), (.long (q2 &&& (9223372036854775807 : Int64)))]) (rest := []) (lenOf pd_0 rfl) rfl (by show 2 * 0 + _ ≤ _; exact Nat.le_of_eq rfl) (hb hby at_76) (fun _ _ => ⟨rfl, e0, (by decide : 0 + 0 ≤ _), (by decide : 0 + 0 ≤ _)⟩)
      dsimp only [Pt.U, Pt.locs, Pt.cells, Pt.slots] at X3 l3 y3 z3 st3 hQ3
      subst l3 y3 z3
      obtain ⟨rfl, N3q, e3⟩ := hQ3
      have N3 := Fr.app N0 N3q
      refine Goes.st (U' := T3.setTop (mkF m 79 #[.val (.long q1), .second, .val (.long q2), .second, .val (.int p3), .val (.long (q2 &&& (9223372036854775807 : Int64))), .second, .val (.int (p3 &&& (3 : Int32))), .val (.long (((9223372036854775807 : Int64) - (q2 &&& (9223372036854775807 : Int64))) + (1 : Int64))), .second, .unset, .unset] [(.long (fn1 (((9223372036854775807 : Int64) - (q2 &&& (9223372036854775807 : Int64))) + (1 : Int64)) (q2 &&& (9223372036854775807 : Int64))))])) st3 ?_
      refine Goes.st (U' := T3.setTop (mkF m 81 #[.val (.long q1), .second, .val (.long q2), .second, .val (.int p3), .val (.long (q2 &&& (9223372036854775807 : Int64))), .second, .val (.int (p3 &&& (3 : Int32))), .val (.long (((9223372036854775807 : Int64) - (q2 &&& (9223372036854775807 : Int64))) + (1 : Int64))), .second, .val (.long (fn1 (((9223372036854775807 : Int64) - (q2 &&& (9223372036854775807 : Int64))) + (1 : Int64)) (q2 &&& (9223372036854775807 : Int64)))), .second] [])) (fun t k => XS.lstore X3.here hx rfl (hb hby at_79) rfl (l' := #[.val (.long q1), .second, .val (.long q2), .second, .val (.int p3), .val (.long (q2 &&& (9223372036854775807 : Int64))), .second, .val (.int (p3 &&& (3 : Int32))), .val (.long (((9223372036854775807 : Int64) - (q2 &&& (9223372036854775807 : Int64))) + (1 : Int64))), .second, .val (.long (fn1 (((9223372036854775807 : Int64) - (q2 &&& (9223372036854775807 : Int64))) + (1 : Int64)) (q2 &&& (9223372036854775807 : Int64)))), .second]) rfl k) ?_
      refine Goes.st (U' := T3.setTop (mkF m 83 #[.val (.long q1), .second, .val (.long q2), .second, .val (.int p3), .val (.long (q2 &&& (9223372036854775807 : Int64))), .second, .val (.int (p3 &&& (3 : Int32))), .val (.long (((9223372036854775807 : Int64) - (q2 &&& (9223372036854775807 : Int64))) + (1 : Int64))), .second, .val (.long (fn1 (((9223372036854775807 : Int64) - (q2 &&& (9223372036854775807 : Int64))) + (1 : Int64)) (q2 &&& (9223372036854775807 : Int64)))), .second] [(.long (fn1 (((9223372036854775807 : Int64) - (q2 &&& (9223372036854775807 : Int64))) + (1 : Int64)) (q2 &&& (9223372036854775807 : Int64))))])) (fun t k => XS.lload X3.here hx rfl (hb hby at_81) rfl k) ?_
      refine Goes.st (U' := T3.setTop (mkF m 85 #[.val (.long q1), .second, .val (.long q2), .second, .val (.int p3), .val (.long (q2 &&& (9223372036854775807 : Int64))), .second, .val (.int (p3 &&& (3 : Int32))), .val (.long (((9223372036854775807 : Int64) - (q2 &&& (9223372036854775807 : Int64))) + (1 : Int64))), .second, .val (.long (fn1 (((9223372036854775807 : Int64) - (q2 &&& (9223372036854775807 : Int64))) + (1 : Int64)) (q2 &&& (9223372036854775807 : Int64)))), .second] [(.long (((9223372036854775807 : Int64) - (q2 &&& (9223372036854775807 : Int64))) + (1 : Int64))), (.long (fn1 (((9223372036854775807 : Int64) - (q2 &&& (9223372036854775807 : Int64))) + (1 : Int64)) (q2 &&& (9223372036854775807 : Int64))))])) (fun t k => XS.lload X3.here hx rfl (hb hby at_83) rfl k) ?_
      refine Goes.st (U' := T3.setTop (mkF m 87 #[.val (.long q1), .second, .val (.long q2), .second, .val (.int p3), .val (.long (q2 &&& (9223372036854775807 : Int64))), .second, .val (.int (p3 &&& (3 : Int32))), .val (.long (((9223372036854775807 : Int64) - (q2 &&& (9223372036854775807 : Int64))) + (1 : Int64))), .second, .val (.long (fn1 (((9223372036854775807 : Int64) - (q2 &&& (9223372036854775807 : Int64))) + (1 : Int64)) (q2 &&& (9223372036854775807 : Int64)))), .second] [(.long (q2 &&& (9223372036854775807 : Int64))), (.long (((9223372036854775807 : Int64) - (q2 &&& (9223372036854775807 : Int64))) + (1 : Int64))), (.long (fn1 (((9223372036854775807 : Int64) - (q2 &&& (9223372036854775807 : Int64))) + (1 : Int64)) (q2 &&& (9223372036854775807 : Int64))))])) (fun t k => XS.lload X3.here hx rfl (hb hby at_85) rfl k) ?_
      obtain ⟨_, _, ⟨T4, L4, k4, n4⟩, -, X4, ⟨Lc4, hQ4, l4, y4, z4⟩, st4⟩ := Jvm.LawKit.callS X3 hx (y := (⟨"com/example/dequeue/dequeue/model/DelayLevelTableDueAtMsPinLaw", "expected", "(JJ)J"⟩ : MethodName)) hown (mvT hZ (hw _ (List.mem_of_getElem? (i := 6) rfl))) (mvT hZ (hw _ (List.mem_of_getElem? (i := 7) rfl))) (mvT hZ (hw _ (List.mem_of_getElem? (i := 8) rfl))) (mvT hZ (hw _ (List.mem_of_getElem? (i := 9) rfl))) (by decide) (backOf (W := 2) (rm2 l Z a0 hw [] (((9223372036854775807 : Int64) - (q2 &&& (9223372036854775807 : Int64))) + (1 : Int64)) (q2 &&& (9223372036854775807 : Int64)) h0 n0 Z0) hZ (hw _ (List.mem_of_getElem? (i := 9) rfl)) (hw _ (List.mem_of_getElem? (i := 8) rfl)) (by decide) (by decide)) (g := (mkF m 87 #[.val (.long q1), .second, .val (.long q2), .second, .val (.int p3), .val (.long (q2 &&& (9223372036854775807 : Int64))), .second, .val (.int (p3 &&& (3 : Int32))), .val (.long (((9223372036854775807 : Int64) - (q2 &&& (9223372036854775807 : Int64))) + (1 : Int64))), .second, .val (.long (fn1 (((9223372036854775807 : Int64) - (q2 &&& (9223372036854775807 : Int64))) + (1 : Int64)) (q2 &&& (9223372036854775807 : Int64)))), .second] [(.long (q2 &&& (9223372036854775807 : Int64))), (.long (((9223372036854775807 : Int64) - (q2 &&& (9223372036854775807 : Int64))) + (1 : Int64))), (.long (fn1 (((9223372036854775807 : Int64) - (q2 &&& (9223372036854775807 : Int64))) + (1 : Int64)) (q2 &&& (9223372036854775807 : Int64))))])) rfl (by rw [hml]; rfl) (argsL := [(.long (((9223372036854775807 : Int64) - (q2 &&& (9223372036854775807 : Int64))) + (1 : Int64))), (.long (q2 &&& (9223372036854775807 : Int64)))]) (rest := [(.long (fn1 (((9223372036854775807 : Int64) - (q2 &&& (9223372036854775807 : Int64))) + (1 : Int64)) (q2 &&& (9223372036854775807 : Int64))))]) (lenOf pd_0 rfl) rfl (by show 2 * 0 + _ ≤ _; exact Nat.le_of_eq rfl) (hb hby at_87) (fun _ _ => ⟨rfl, e3, (by decide : 0 + 0 ≤ _), (by decide : 0 + 0 ≤ _)⟩)
      dsimp only [Pt.U, Pt.locs, Pt.cells, Pt.slots] at X4 l4 y4 z4 st4 hQ4
      subst l4 y4 z4
      obtain ⟨rfl, N4q, e4⟩ := hQ4
      have N4 := Fr.app N3 N4q
      refine Goes.st (U' := T4.setTop (mkF m 90 #[.val (.long q1), .second, .val (.long q2), .second, .val (.int p3), .val (.long (q2 &&& (9223372036854775807 : Int64))), .second, .val (.int (p3 &&& (3 : Int32))), .val (.long (((9223372036854775807 : Int64) - (q2 &&& (9223372036854775807 : Int64))) + (1 : Int64))), .second, .val (.long (fn1 (((9223372036854775807 : Int64) - (q2 &&& (9223372036854775807 : Int64))) + (1 : Int64)) (q2 &&& (9223372036854775807 : Int64)))), .second] [(.long (fn2 (((9223372036854775807 : Int64) - (q2 &&& (9223372036854775807 : Int64))) + (1 : Int64)) (q2 &&& (9223372036854775807 : Int64)))), (.long (fn1 (((9223372036854775807 : Int64) - (q2 &&& (9223372036854775807 : Int64))) + (1 : Int64)) (q2 &&& (9223372036854775807 : Int64))))])) st4 ?_
      refine Goes.st (U' := T4.setTop (mkF m 91 #[.val (.long q1), .second, .val (.long q2), .second, .val (.int p3), .val (.long (q2 &&& (9223372036854775807 : Int64))), .second, .val (.int (p3 &&& (3 : Int32))), .val (.long (((9223372036854775807 : Int64) - (q2 &&& (9223372036854775807 : Int64))) + (1 : Int64))), .second, .val (.long (fn1 (((9223372036854775807 : Int64) - (q2 &&& (9223372036854775807 : Int64))) + (1 : Int64)) (q2 &&& (9223372036854775807 : Int64)))), .second] [(.int (lcmpW (fn1 (((9223372036854775807 : Int64) - (q2 &&& (9223372036854775807 : Int64))) + (1 : Int64)) (q2 &&& (9223372036854775807 : Int64))) (fn2 (((9223372036854775807 : Int64) - (q2 &&& (9223372036854775807 : Int64))) + (1 : Int64)) (q2 &&& (9223372036854775807 : Int64)))))])) (fun t k => XS.lcmp X4.here hx rfl (hb hby at_90) rfl k) ?_
      rcases Decidable.em ((fn1 (((9223372036854775807 : Int64) - (q2 &&& (9223372036854775807 : Int64))) + (1 : Int64)) (q2 &&& (9223372036854775807 : Int64))) = (fn2 (((9223372036854775807 : Int64) - (q2 &&& (9223372036854775807 : Int64))) + (1 : Int64)) (q2 &&& (9223372036854775807 : Int64)))) with hc91 | hc91
      · refine Goes.st (U' := T4.setTop (mkF m 94 #[.val (.long q1), .second, .val (.long q2), .second, .val (.int p3), .val (.long (q2 &&& (9223372036854775807 : Int64))), .second, .val (.int (p3 &&& (3 : Int32))), .val (.long (((9223372036854775807 : Int64) - (q2 &&& (9223372036854775807 : Int64))) + (1 : Int64))), .second, .val (.long (fn1 (((9223372036854775807 : Int64) - (q2 &&& (9223372036854775807 : Int64))) + (1 : Int64)) (q2 &&& (9223372036854775807 : Int64)))), .second] [])) (fun t k => XS.ifNo X4.here hx rfl (hb hby at_91) rfl ((if0 _ _).trans (teq ((lw_eq _ _).mpr hc91)).2) k) ?_
        refine Goes.st (U' := T4.setTop (mkF m 95 #[.val (.long q1), .second, .val (.long q2), .second, .val (.int p3), .val (.long (q2 &&& (9223372036854775807 : Int64))), .second, .val (.int (p3 &&& (3 : Int32))), .val (.long (((9223372036854775807 : Int64) - (q2 &&& (9223372036854775807 : Int64))) + (1 : Int64))), .second, .val (.long (fn1 (((9223372036854775807 : Int64) - (q2 &&& (9223372036854775807 : Int64))) + (1 : Int64)) (q2 &&& (9223372036854775807 : Int64)))), .second] [(.int (1 : Int32))])) (fun t k => XS.iconst X4.here hx rfl (hb hby at_94) k) ?_
        refine Goes.st (U' := T4.setTop (mkF m 99 #[.val (.long q1), .second, .val (.long q2), .second, .val (.int p3), .val (.long (q2 &&& (9223372036854775807 : Int64))), .second, .val (.int (p3 &&& (3 : Int32))), .val (.long (((9223372036854775807 : Int64) - (q2 &&& (9223372036854775807 : Int64))) + (1 : Int64))), .second, .val (.long (fn1 (((9223372036854775807 : Int64) - (q2 &&& (9223372036854775807 : Int64))) + (1 : Int64)) (q2 &&& (9223372036854775807 : Int64)))), .second] [(.int (1 : Int32))])) (fun t k => XS.goto X4.here hx rfl (pc0 := 95) (pc' := 99) rfl (hb hby at_95) (by decide) (by decide) k) ?_
        refine Goes.retZ X4 hx (BodyLoose.notSynchronized Bd) Bd.returns (hb hby at_99) rfl (by decide) (by decide) ?_
        show Q0 Z q1 q2 p3 h0 n0 _ T4.heap _
        rw [e4]
        exact ⟨(congrArg some (congrArg _ (by unfold fn0; rw [if_neg hc16]; rw [if_pos hc33]; rw [if_pos hc91]))), N4, rfl⟩
      · refine Goes.st (U' := T4.setTop (mkF m 98 #[.val (.long q1), .second, .val (.long q2), .second, .val (.int p3), .val (.long (q2 &&& (9223372036854775807 : Int64))), .second, .val (.int (p3 &&& (3 : Int32))), .val (.long (((9223372036854775807 : Int64) - (q2 &&& (9223372036854775807 : Int64))) + (1 : Int64))), .second, .val (.long (fn1 (((9223372036854775807 : Int64) - (q2 &&& (9223372036854775807 : Int64))) + (1 : Int64)) (q2 &&& (9223372036854775807 : Int64)))), .second] [])) (fun t k => XS.ifYes X4.here hx rfl (pc0 := 91) (pc' := 98) rfl (hb hby at_91) rfl ((if0 _ _).trans (feq (fun q => hc91 ((lw_eq _ _).mp q))).2) (by decide) (by decide) k) ?_
        refine Goes.st (U' := T4.setTop (mkF m 99 #[.val (.long q1), .second, .val (.long q2), .second, .val (.int p3), .val (.long (q2 &&& (9223372036854775807 : Int64))), .second, .val (.int (p3 &&& (3 : Int32))), .val (.long (((9223372036854775807 : Int64) - (q2 &&& (9223372036854775807 : Int64))) + (1 : Int64))), .second, .val (.long (fn1 (((9223372036854775807 : Int64) - (q2 &&& (9223372036854775807 : Int64))) + (1 : Int64)) (q2 &&& (9223372036854775807 : Int64)))), .second] [(.int (0 : Int32))])) (fun t k => XS.iconst X4.here hx rfl (hb hby at_98) k) ?_
        refine Goes.retZ X4 hx (BodyLoose.notSynchronized Bd) Bd.returns (hb hby at_99) rfl (by decide) (by decide) ?_
        show Q0 Z q1 q2 p3 h0 n0 _ T4.heap _
        rw [e4]
        exact ⟨(congrArg some (congrArg _ (by unfold fn0; rw [if_neg hc16]; rw [if_pos hc33]; rw [if_neg hc91]))), N4, rfl⟩
    · refine Goes.st (U' := s₁.setTop (mkF m 49 #[.val (.long q1), .second, .val (.long q2), .second, .val (.int p3), .val (.long (q2 &&& (9223372036854775807 : Int64))), .second, .val (.int (p3 &&& (3 : Int32))), .unset, .unset, .unset, .unset] [])) (fun t k => XS.icmpYes X0.here hx rfl (pc0 := 33) (pc' := 49) rfl (hb hby at_33) rfl (feq hc33).2 (by decide) (by decide) k) ?_
      refine Goes.st (U' := s₁.setTop (mkF m 51 #[.val (.long q1), .second, .val (.long q2), .second, .val (.int p3), .val (.long (q2 &&& (9223372036854775807 : Int64))), .second, .val (.int (p3 &&& (3 : Int32))), .unset, .unset, .unset, .unset] [(.int (p3 &&& (3 : Int32)))])) (fun t k => XS.iload X0.here hx rfl (hb hby at_49) rfl k) ?_
      refine Goes.st (U' := s₁.setTop (mkF m 52 #[.val (.long q1), .second, .val (.long q2), .second, .val (.int p3), .val (.long (q2 &&& (9223372036854775807 : Int64))), .second, .val (.int (p3 &&& (3 : Int32))), .unset, .unset, .unset, .unset] [(.int (3 : Int32)), (.int (p3 &&& (3 : Int32)))])) (fun t k => XS.iconst X0.here hx rfl (hb hby at_51) k) ?_
      rcases Decidable.em ((p3 &&& (3 : Int32)) = (3 : Int32)) with hc52 | hc52
      · refine Goes.st (U' := s₁.setTop (mkF m 55 #[.val (.long q1), .second, .val (.long q2), .second, .val (.int p3), .val (.long (q2 &&& (9223372036854775807 : Int64))), .second, .val (.int (p3 &&& (3 : Int32))), .unset, .unset, .unset, .unset] [])) (fun t k => XS.icmpNo X0.here hx rfl (hb hby at_52) rfl (teq hc52).2 k) ?_
        refine Goes.st (U' := s₁.setTop (mkF m 58 #[.val (.long q1), .second, .val (.long q2), .second, .val (.int p3), .val (.long (q2 &&& (9223372036854775807 : Int64))), .second, .val (.int (p3 &&& (3 : Int32))), .unset, .unset, .unset, .unset] [(.long (-9223372036854775808 : Int64))])) (fun t k => X0.ldc2Long hx hown (mvT hZ (hw _ (List.mem_of_getElem? (i := 10) rfl))) (g := (mkF m 55 #[.val (.long q1), .second, .val (.long q2), .second, .val (.int p3), .val (.long (q2 &&& (9223372036854775807 : Int64))), .second, .val (.int (p3 &&& (3 : Int32))), .unset, .unset, .unset, .unset] [])) rfl (hb hby at_55) t k) ?_
        refine Goes.st (U' := s₁.setTop (mkF m 59 #[.val (.long q1), .second, .val (.long q2), .second, .val (.int p3), .val (.long (q2 &&& (9223372036854775807 : Int64))), .second, .val (.int (p3 &&& (3 : Int32))), .unset, .unset, .unset, .unset] [(.long q1), (.long (-9223372036854775808 : Int64))])) (fun t k => XS.lloadN X0.here hx rfl (hb hby at_58) rfl k) ?_
        refine Goes.st (U' := s₁.setTop (mkF m 62 #[.val (.long q1), .second, .val (.long q2), .second, .val (.int p3), .val (.long (q2 &&& (9223372036854775807 : Int64))), .second, .val (.int (p3 &&& (3 : Int32))), .unset, .unset, .unset, .unset] [(.long (65535 : Int64)), (.long q1), (.long (-9223372036854775808 : Int64))])) (fun t k => X0.ldc2Long hx hown (mvT hZ (hw _ (List.mem_of_getElem? (i := 11) rfl))) (g := (mkF m 59 #[.val (.long q1), .second, .val (.long q2), .second, .val (.int p3), .val (.long (q2 &&& (9223372036854775807 : Int64))), .second, .val (.int (p3 &&& (3 : Int32))), .unset, .unset, .unset, .unset] [(.long q1), (.long (-9223372036854775808 : Int64))])) rfl (hb hby at_59) t k) ?_
        refine Goes.st (U' := s₁.setTop (mkF m 63 #[.val (.long q1), .second, .val (.long q2), .second, .val (.int p3), .val (.long (q2 &&& (9223372036854775807 : Int64))), .second, .val (.int (p3 &&& (3 : Int32))), .unset, .unset, .unset, .unset] [(.long (q1 &&& (65535 : Int64))), (.long (-9223372036854775808 : Int64))])) (fun t k => XS.land X0.here hx rfl (hb hby at_62) rfl k) ?_
        refine Goes.st (U' := s₁.setTop (mkF m 64 #[.val (.long q1), .second, .val (.long q2), .second, .val (.int p3), .val (.long (q2 &&& (9223372036854775807 : Int64))), .second, .val (.int (p3 &&& (3 : Int32))), .unset, .unset, .unset, .unset] [(.long ((-9223372036854775808 : Int64) + (q1 &&& (65535 : Int64))))])) (fun t k => XS.ladd X0.here hx rfl (hb hby at_63) rfl k) ?_
        refine Goes.st (U' := s₁.setTop (mkF m 66 #[.val (.long q1), .second, .val (.long q2), .second, .val (.int p3), .val (.long (q2 &&& (9223372036854775807 : Int64))), .second, .val (.int (p3 &&& (3 : Int32))), .val (.long ((-9223372036854775808 : Int64) + (q1 &&& (65535 : Int64)))), .second, .unset, .unset] [])) (fun t k => XS.lstore X0.here hx rfl (hb hby at_64) rfl (l' := #[.val (.long q1), .second, .val (.long q2), .second, .val (.int p3), .val (.long (q2 &&& (9223372036854775807 : Int64))), .second, .val (.int (p3 &&& (3 : Int32))), .val (.long ((-9223372036854775808 : Int64) + (q1 &&& (65535 : Int64)))), .second, .unset, .unset]) rfl k) ?_
        refine Goes.st (U' := s₁.setTop (mkF m 72 #[.val (.long q1), .second, .val (.long q2), .second, .val (.int p3), .val (.long (q2 &&& (9223372036854775807 : Int64))), .second, .val (.int (p3 &&& (3 : Int32))), .val (.long ((-9223372036854775808 : Int64) + (q1 &&& (65535 : Int64)))), .second, .unset, .unset] [])) (fun t k => XS.goto X0.here hx rfl (pc0 := 66) (pc' := 72) rfl (hb hby at_66) (by decide) (by decide) k) ?_
        refine Goes.st (U' := s₁.setTop (mkF m 74 #[.val (.long q1), .second, .val (.long q2), .second, .val (.int p3), .val (.long (q2 &&& (9223372036854775807 : Int64))), .second, .val (.int (p3 &&& (3 : Int32))), .val (.long ((-9223372036854775808 : Int64) + (q1 &&& (65535 : Int64)))), .second, .unset, .unset] [(.long ((-9223372036854775808 : Int64) + (q1 &&& (65535 : Int64))))])) (fun t k => XS.lload X0.here hx rfl (hb hby at_72) rfl k) ?_
        refine Goes.st (U' := s₁.setTop (mkF m 76 #[.val (.long q1), .second, .val (.long q2), .second, .val (.int p3), .val (.long (q2 &&& (9223372036854775807 : Int64))), .second, .val (.int (p3 &&& (3 : Int32))), .val (.long ((-9223372036854775808 : Int64) + (q1 &&& (65535 : Int64)))), .second, .unset, .unset] [(.long (q2 &&& (9223372036854775807 : Int64))), (.long ((-9223372036854775808 : Int64) + (q1 &&& (65535 : Int64))))])) (fun t k => XS.lload X0.here hx rfl (hb hby at_74) rfl k) ?_
        obtain ⟨_, _, ⟨T5, L5, k5, n5⟩, -, X5, ⟨Lc5, hQ5, l5, y5, z5⟩, st5⟩ := Jvm.LawKit.callS X0 hx (y := (⟨"com/example/dequeue/dequeue/model/DelayLevelTable", "dueAtMs", "(JJ)J"⟩ : MethodName)) hown (mvT hZ (hw _ (List.mem_of_getElem? (i := 1) rfl))) (mvT hZ (hw _ (List.mem_of_getElem? (i := 2) rfl))) (mvT hZ (hw _ (List.mem_of_getElem? (i := 3) rfl))) (mvT hZ (hw _ (List.mem_of_getElem? (i := 4) rfl))) (by decide) (backOf (W := 0) (rm1 l Z a0 hw [] ((-9223372036854775808 : Int64) + (q1 &&& (65535 : Int64))) (q2 &&& (9223372036854775807 : Int64)) h0 n0 Z0) hZ (hw _ (List.mem_of_getElem? (i := 4) rfl)) (hw _ (List.mem_of_getElem? (i := 3) rfl)) (by decide) (by decide)) (g := (mkF m 76 #[.val (.long q1), .second, .val (.long q2), .second, .val (.int p3), .val (.long (q2 &&& (9223372036854775807 : Int64))), .second, .val (.int (p3 &&& (3 : Int32))), .val (.long ((-9223372036854775808 : Int64) + (q1 &&& (65535 : Int64)))), .second, .unset, .unset] [(.long (q2 &&& (9223372036854775807 : Int64))), (.long ((-9223372036854775808 : Int64) + (q1 &&& (65535 : Int64))))])) rfl (by rw [hml]; rfl) (argsL := [(.long ((-9223372036854775808 : Int64) + (q1 &&& (65535 : Int64)))), (.long (q2 &&& (9223372036854775807 : Int64)))]) (rest := []) (lenOf pd_0 rfl) rfl (by show 2 * 0 + _ ≤ _; exact Nat.le_of_eq rfl) (hb hby at_76) (fun _ _ => ⟨rfl, e0, (by decide : 0 + 0 ≤ _), (by decide : 0 + 0 ≤ _)⟩)
        dsimp only [Pt.U, Pt.locs, Pt.cells, Pt.slots] at X5 l5 y5 z5 st5 hQ5
        subst l5 y5 z5
        obtain ⟨rfl, N5q, e5⟩ := hQ5
        have N5 := Fr.app N0 N5q
        refine Goes.st (U' := T5.setTop (mkF m 79 #[.val (.long q1), .second, .val (.long q2), .second, .val (.int p3), .val (.long (q2 &&& (9223372036854775807 : Int64))), .second, .val (.int (p3 &&& (3 : Int32))), .val (.long ((-9223372036854775808 : Int64) + (q1 &&& (65535 : Int64)))), .second, .unset, .unset] [(.long (fn1 ((-9223372036854775808 : Int64) + (q1 &&& (65535 : Int64))) (q2 &&& (9223372036854775807 : Int64))))])) st5 ?_
        refine Goes.st (U' := T5.setTop (mkF m 81 #[.val (.long q1), .second, .val (.long q2), .second, .val (.int p3), .val (.long (q2 &&& (9223372036854775807 : Int64))), .second, .val (.int (p3 &&& (3 : Int32))), .val (.long ((-9223372036854775808 : Int64) + (q1 &&& (65535 : Int64)))), .second, .val (.long (fn1 ((-9223372036854775808 : Int64) + (q1 &&& (65535 : Int64))) (q2 &&& (9223372036854775807 : Int64)))), .second] [])) (fun t k => XS.lstore X5.here hx rfl (hb hby at_79) rfl (l' := #[.val (.long q1), .second, .val (.long q2), .second, .val (.int p3), .val (.long (q2 &&& (9223372036854775807 : Int64))), .second, .val (.int (p3 &&& (3 : Int32))), .val (.long ((-9223372036854775808 : Int64) + (q1 &&& (65535 : Int64)))), .second, .val (.long (fn1 ((-9223372036854775808 : Int64) + (q1 &&& (65535 : Int64))) (q2 &&& (9223372036854775807 : Int64)))), .second]) rfl k) ?_
        refine Goes.st (U' := T5.setTop (mkF m 83 #[.val (.long q1), .second, .val (.long q2), .second, .val (.int p3), .val (.long (q2 &&& (9223372036854775807 : Int64))), .second, .val (.int (p3 &&& (3 : Int32))), .val (.long ((-9223372036854775808 : Int64) + (q1 &&& (65535 : Int64)))), .second, .val (.long (fn1 ((-9223372036854775808 : Int64) + (q1 &&& (65535 : Int64))) (q2 &&& (9223372036854775807 : Int64)))), .second] [(.long (fn1 ((-9223372036854775808 : Int64) + (q1 &&& (65535 : Int64))) (q2 &&& (9223372036854775807 : Int64))))])) (fun t k => XS.lload X5.here hx rfl (hb hby at_81) rfl k) ?_
        refine Goes.st (U' := T5.setTop (mkF m 85 #[.val (.long q1), .second, .val (.long q2), .second, .val (.int p3), .val (.long (q2 &&& (9223372036854775807 : Int64))), .second, .val (.int (p3 &&& (3 : Int32))), .val (.long ((-9223372036854775808 : Int64) + (q1 &&& (65535 : Int64)))), .second, .val (.long (fn1 ((-9223372036854775808 : Int64) + (q1 &&& (65535 : Int64))) (q2 &&& (9223372036854775807 : Int64)))), .second] [(.long ((-9223372036854775808 : Int64) + (q1 &&& (65535 : Int64)))), (.long (fn1 ((-9223372036854775808 : Int64) + (q1 &&& (65535 : Int64))) (q2 &&& (9223372036854775807 : Int64))))])) (fun t k => XS.lload X5.here hx rfl (hb hby at_83) rfl k) ?_
        refine Goes.st (U' := T5.setTop (mkF m 87 #[.val (.long q1), .second, .val (.long q2), .second, .val (.int p3), .val (.long (q2 &&& (9223372036854775807 : Int64))), .second, .val (.int (p3 &&& (3 : Int32))), .val (.long ((-9223372036854775808 : Int64) + (q1 &&& (65535 : Int64)))), .second, .val (.long (fn1 ((-9223372036854775808 : Int64) + (q1 &&& (65535 : Int64))) (q2 &&& (9223372036854775807 : Int64)))), .second] [(.long (q2 &&& (9223372036854775807 : Int64))), (.long ((-9223372036854775808 : Int64) + (q1 &&& (65535 : Int64)))), (.long (fn1 ((-9223372036854775808 : Int64) + (q1 &&& (65535 : Int64))) (q2 &&& (9223372036854775807 : Int64))))])) (fun t k => XS.lload X5.here hx rfl (hb hby at_85) rfl k) ?_
        obtain ⟨_, _, ⟨T6, L6, k6, n6⟩, -, X6, ⟨Lc6, hQ6, l6, y6, z6⟩, st6⟩ := Jvm.LawKit.callS X5 hx (y := (⟨"com/example/dequeue/dequeue/model/DelayLevelTableDueAtMsPinLaw", "expected", "(JJ)J"⟩ : MethodName)) hown (mvT hZ (hw _ (List.mem_of_getElem? (i := 6) rfl))) (mvT hZ (hw _ (List.mem_of_getElem? (i := 7) rfl))) (mvT hZ (hw _ (List.mem_of_getElem? (i := 8) rfl))) (mvT hZ (hw _ (List.mem_of_getElem? (i := 9) rfl))) (by decide) (backOf (W := 2) (rm2 l Z a0 hw [] ((-9223372036854775808 : Int64) + (q1 &&& (65535 : Int64))) (q2 &&& (9223372036854775807 : Int64)) h0 n0 Z0) hZ (hw _ (List.mem_of_getElem? (i := 9) rfl)) (hw _ (List.mem_of_getElem? (i := 8) rfl)) (by decide) (by decide)) (g := (mkF m 87 #[.val (.long q1), .second, .val (.long q2), .second, .val (.int p3), .val (.long (q2 &&& (9223372036854775807 : Int64))), .second, .val (.int (p3 &&& (3 : Int32))), .val (.long ((-9223372036854775808 : Int64) + (q1 &&& (65535 : Int64)))), .second, .val (.long (fn1 ((-9223372036854775808 : Int64) + (q1 &&& (65535 : Int64))) (q2 &&& (9223372036854775807 : Int64)))), .second] [(.long (q2 &&& (9223372036854775807 : Int64))), (.long ((-9223372036854775808 : Int64) + (q1 &&& (65535 : Int64)))), (.long (fn1 ((-9223372036854775808 : Int64) + (q1 &&& (65535 : Int64))) (q2 &&& (9223372036854775807 : Int64))))])) rfl (by rw [hml]; rfl) (argsL := [(.long ((-9223372036854775808 : Int64) + (q1 &&& (65535 : Int64)))), (.long (q2 &&& (9223372036854775807 : Int64)))]) (rest := [(.long (fn1 ((-9223372036854775808 : Int64) + (q1 &&& (65535 : Int64))) (q2 &&& (9223372036854775807 : Int64))))]) (lenOf pd_0 rfl) rfl (by show 2 * 0 + _ ≤ _; exact Nat.le_of_eq rfl) (hb hby at_87) (fun _ _ => ⟨rfl, e5, (by decide : 0 + 0 ≤ _), (by decide : 0 + 0 ≤ _)⟩)
        dsimp only [Pt.U, Pt.locs, Pt.cells, Pt.slots] at X6 l6 y6 z6 st6 hQ6
        subst l6 y6 z6
        obtain ⟨rfl, N6q, e6⟩ := hQ6
        have N6 := Fr.app N5 N6q
        refine Goes.st (U' := T6.setTop (mkF m 90 #[.val (.long q1), .second, .val (.long q2), .second, .val (.int p3), .val (.long (q2 &&& (9223372036854775807 : Int64))), .second, .val (.int (p3 &&& (3 : Int32))), .val (.long ((-9223372036854775808 : Int64) + (q1 &&& (65535 : Int64)))), .second, .val (.long (fn1 ((-9223372036854775808 : Int64) + (q1 &&& (65535 : Int64))) (q2 &&& (9223372036854775807 : Int64)))), .second] [(.long (fn2 ((-9223372036854775808 : Int64) + (q1 &&& (65535 : Int64))) (q2 &&& (9223372036854775807 : Int64)))), (.long (fn1 ((-9223372036854775808 : Int64) + (q1 &&& (65535 : Int64))) (q2 &&& (9223372036854775807 : Int64))))])) st6 ?_
        refine Goes.st (U' := T6.setTop (mkF m 91 #[.val (.long q1), .second, .val (.long q2), .second, .val (.int p3), .val (.long (q2 &&& (9223372036854775807 : Int64))), .second, .val (.int (p3 &&& (3 : Int32))), .val (.long ((-9223372036854775808 : Int64) + (q1 &&& (65535 : Int64)))), .second, .val (.long (fn1 ((-9223372036854775808 : Int64) + (q1 &&& (65535 : Int64))) (q2 &&& (9223372036854775807 : Int64)))), .second] [(.int (lcmpW (fn1 ((-9223372036854775808 : Int64) + (q1 &&& (65535 : Int64))) (q2 &&& (9223372036854775807 : Int64))) (fn2 ((-9223372036854775808 : Int64) + (q1 &&& (65535 : Int64))) (q2 &&& (9223372036854775807 : Int64)))))])) (fun t k => XS.lcmp X6.here hx rfl (hb hby at_90) rfl k) ?_
        rcases Decidable.em ((fn1 ((-9223372036854775808 : Int64) + (q1 &&& (65535 : Int64))) (q2 &&& (9223372036854775807 : Int64))) = (fn2 ((-9223372036854775808 : Int64) + (q1 &&& (65535 : Int64))) (q2 &&& (9223372036854775807 : Int64)))) with hc91 | hc91
        · refine Goes.st (U' := T6.setTop (mkF m 94 #[.val (.long q1), .second, .val (.long q2), .second, .val (.int p3), .val (.long (q2 &&& (9223372036854775807 : Int64))), .second, .val (.int (p3 &&& (3 : Int32))), .val (.long ((-9223372036854775808 : Int64) + (q1 &&& (65535 : Int64)))), .second, .val (.long (fn1 ((-9223372036854775808 : Int64) + (q1 &&& (65535 : Int64))) (q2 &&& (9223372036854775807 : Int64)))), .second] [])) (fun t k => XS.ifNo X6.here hx rfl (hb hby at_91) rfl ((if0 _ _).trans (teq ((lw_eq _ _).mpr hc91)).2) k) ?_
          refine Goes.st (U' := T6.setTop (mkF m 95 #[.val (.long q1), .second, .val (.long q2), .second, .val (.int p3), .val (.long (q2 &&& (9223372036854775807 : Int64))), .second, .val (.int (p3 &&& (3 : Int32))), .val (.long ((-9223372036854775808 : Int64) + (q1 &&& (65535 : Int64)))), .second, .val (.long (fn1 ((-9223372036854775808 : Int64) + (q1 &&& (65535 : Int64))) (q2 &&& (9223372036854775807 : Int64)))), .second] [(.int (1 : Int32))])) (fun t k => XS.iconst X6.here hx rfl (hb hby at_94) k) ?_
          refine Goes.st (U' := T6.setTop (mkF m 99 #[.val (.long q1), .second, .val (.long q2), .second, .val (.int p3), .val (.long (q2 &&& (9223372036854775807 : Int64))), .second, .val (.int (p3 &&& (3 : Int32))), .val (.long ((-9223372036854775808 : Int64) + (q1 &&& (65535 : Int64)))), .second, .val (.long (fn1 ((-9223372036854775808 : Int64) + (q1 &&& (65535 : Int64))) (q2 &&& (9223372036854775807 : Int64)))), .second] [(.int (1 : Int32))])) (fun t k => XS.goto X6.here hx rfl (pc0 := 95) (pc' := 99) rfl (hb hby at_95) (by decide) (by decide) k) ?_
          refine Goes.retZ X6 hx (BodyLoose.notSynchronized Bd) Bd.returns (hb hby at_99) rfl (by decide) (by decide) ?_
          show Q0 Z q1 q2 p3 h0 n0 _ T6.heap _
          rw [e6]
          exact ⟨(congrArg some (congrArg _ (by unfold fn0; rw [if_neg hc16]; rw [if_neg hc33]; rw [if_pos hc52]; rw [if_pos hc91]))), N6, rfl⟩
        · refine Goes.st (U' := T6.setTop (mkF m 98 #[.val (.long q1), .second, .val (.long q2), .second, .val (.int p3), .val (.long (q2 &&& (9223372036854775807 : Int64))), .second, .val (.int (p3 &&& (3 : Int32))), .val (.long ((-9223372036854775808 : Int64) + (q1 &&& (65535 : Int64)))), .second, .val (.long (fn1 ((-9223372036854775808 : Int64) + (q1 &&& (65535 : Int64))) (q2 &&& (9223372036854775807 : Int64)))), .second] [])) (fun t k => XS.ifYes X6.here hx rfl (pc0 := 91) (pc' := 98) rfl (hb hby at_91) rfl ((if0 _ _).trans (feq (fun q => hc91 ((lw_eq _ _).mp q))).2) (by decide) (by decide) k) ?_
          refine Goes.st (U' := T6.setTop (mkF m 99 #[.val (.long q1), .second, .val (.long q2), .second, .val (.int p3), .val (.long (q2 &&& (9223372036854775807 : Int64))), .second, .val (.int (p3 &&& (3 : Int32))), .val (.long ((-9223372036854775808 : Int64) + (q1 &&& (65535 : Int64)))), .second, .val (.long (fn1 ((-9223372036854775808 : Int64) + (q1 &&& (65535 : Int64))) (q2 &&& (9223372036854775807 : Int64)))), .second] [(.int (0 : Int32))])) (fun t k => XS.iconst X6.here hx rfl (hb hby at_98) k) ?_
          refine Goes.retZ X6 hx (BodyLoose.notSynchronized Bd) Bd.returns (hb hby at_99) rfl (by decide) (by decide) ?_
          show Q0 Z q1 q2 p3 h0 n0 _ T6.heap _
          rw [e6]
          exact ⟨(congrArg some (congrArg _ (by unfold fn0; rw [if_neg hc16]; rw [if_neg hc33]; rw [if_pos hc52]; rw [if_neg hc91]))), N6, rfl⟩
      · refine Goes.st (U' := s₁.setTop (mkF m 69 #[.val (.long q1), .second, .val (.long q2), .second, .val (.int p3), .val (.long (q2 &&& (9223372036854775807 : Int64))), .second, .val (.int (p3 &&& (3 : Int32))), .unset, .unset, .unset, .unset] [])) (fun t k => XS.icmpYes X0.here hx rfl (pc0 := 52) (pc' := 69) rfl (hb hby at_52) rfl (feq hc52).2 (by decide) (by decide) k) ?_
        refine Goes.st (U' := s₁.setTop (mkF m 70 #[.val (.long q1), .second, .val (.long q2), .second, .val (.int p3), .val (.long (q2 &&& (9223372036854775807 : Int64))), .second, .val (.int (p3 &&& (3 : Int32))), .unset, .unset, .unset, .unset] [(.long q1)])) (fun t k => XS.lloadN X0.here hx rfl (hb hby at_69) rfl k) ?_
        refine Goes.st (U' := s₁.setTop (mkF m 72 #[.val (.long q1), .second, .val (.long q2), .second, .val (.int p3), .val (.long (q2 &&& (9223372036854775807 : Int64))), .second, .val (.int (p3 &&& (3 : Int32))), .val (.long q1), .second, .unset, .unset] [])) (fun t k => XS.lstore X0.here hx rfl (hb hby at_70) rfl (l' := #[.val (.long q1), .second, .val (.long q2), .second, .val (.int p3), .val (.long (q2 &&& (9223372036854775807 : Int64))), .second, .val (.int (p3 &&& (3 : Int32))), .val (.long q1), .second, .unset, .unset]) rfl k) ?_
        refine Goes.st (U' := s₁.setTop (mkF m 74 #[.val (.long q1), .second, .val (.long q2), .second, .val (.int p3), .val (.long (q2 &&& (9223372036854775807 : Int64))), .second, .val (.int (p3 &&& (3 : Int32))), .val (.long q1), .second, .unset, .unset] [(.long q1)])) (fun t k => XS.lload X0.here hx rfl (hb hby at_72) rfl k) ?_
        refine Goes.st (U' := s₁.setTop (mkF m 76 #[.val (.long q1), .second, .val (.long q2), .second, .val (.int p3), .val (.long (q2 &&& (9223372036854775807 : Int64))), .second, .val (.int (p3 &&& (3 : Int32))), .val (.long q1), .second, .unset, .unset] [(.long (q2 &&& (9223372036854775807 : Int64))), (.long q1)])) (fun t k => XS.lload X0.here hx rfl (hb hby at_74) rfl k) ?_
        obtain ⟨_, _, ⟨T7, L7, k7, n7⟩, -, X7, ⟨Lc7, hQ7, l7, y7, z7⟩, st7⟩ := Jvm.LawKit.callS X0 hx (y := (⟨"com/example/dequeue/dequeue/model/DelayLevelTable", "dueAtMs", "(JJ)J"⟩ : MethodName)) hown (mvT hZ (hw _ (List.mem_of_getElem? (i := 1) rfl))) (mvT hZ (hw _ (List.mem_of_getElem? (i := 2) rfl))) (mvT hZ (hw _ (List.mem_of_getElem? (i := 3) rfl))) (mvT hZ (hw _ (List.mem_of_getElem? (i := 4) rfl))) (by decide) (backOf (W := 0) (rm1 l Z a0 hw [] q1 (q2 &&& (9223372036854775807 : Int64)) h0 n0 Z0) hZ (hw _ (List.mem_of_getElem? (i := 4) rfl)) (hw _ (List.mem_of_getElem? (i := 3) rfl)) (by decide) (by decide)) (g := (mkF m 76 #[.val (.long q1), .second, .val (.long q2), .second, .val (.int p3), .val (.long (q2 &&& (9223372036854775807 : Int64))), .second, .val (.int (p3 &&& (3 : Int32))), .val (.long q1), .second, .unset, .unset] [(.long (q2 &&& (9223372036854775807 : Int64))), (.long q1)])) rfl (by rw [hml]; rfl) (argsL := [(.long q1), (.long (q2 &&& (9223372036854775807 : Int64)))]) (rest := []) (lenOf pd_0 rfl) rfl (by show 2 * 0 + _ ≤ _; exact Nat.le_of_eq rfl) (hb hby at_76) (fun _ _ => ⟨rfl, e0, (by decide : 0 + 0 ≤ _), (by decide : 0 + 0 ≤ _)⟩)
        dsimp only [Pt.U, Pt.locs, Pt.cells, Pt.slots] at X7 l7 y7 z7 st7 hQ7
        subst l7 y7 z7
        obtain ⟨rfl, N7q, e7⟩ := hQ7
        have N7 := Fr.app N0 N7q
        refine Goes.st (U' := T7.setTop (mkF m 79 #[.val (.long q1), .second, .val (.long q2), .second, .val (.int p3), .val (.long (q2 &&& (9223372036854775807 : Int64))), .second, .val (.int (p3 &&& (3 : Int32))), .val (.long q1), .second, .unset, .unset] [(.long (fn1 q1 (q2 &&& (9223372036854775807 : Int64))))])) st7 ?_
        refine Goes.st (U' := T7.setTop (mkF m 81 #[.val (.long q1), .second, .val (.long q2), .second, .val (.int p3), .val (.long (q2 &&& (9223372036854775807 : Int64))), .second, .val (.int (p3 &&& (3 : Int32))), .val (.long q1), .second, .val (.long (fn1 q1 (q2 &&& (9223372036854775807 : Int64)))), .second] [])) (fun t k => XS.lstore X7.here hx rfl (hb hby at_79) rfl (l' := #[.val (.long q1), .second, .val (.long q2), .second, .val (.int p3), .val (.long (q2 &&& (9223372036854775807 : Int64))), .second, .val (.int (p3 &&& (3 : Int32))), .val (.long q1), .second, .val (.long (fn1 q1 (q2 &&& (9223372036854775807 : Int64)))), .second]) rfl k) ?_
        refine Goes.st (U' := T7.setTop (mkF m 83 #[.val (.long q1), .second, .val (.long q2), .second, .val (.int p3), .val (.long (q2 &&& (9223372036854775807 : Int64))), .second, .val (.int (p3 &&& (3 : Int32))), .val (.long q1), .second, .val (.long (fn1 q1 (q2 &&& (9223372036854775807 : Int64)))), .second] [(.long (fn1 q1 (q2 &&& (9223372036854775807 : Int64))))])) (fun t k => XS.lload X7.here hx rfl (hb hby at_81) rfl k) ?_
        refine Goes.st (U' := T7.setTop (mkF m 85 #[.val (.long q1), .second, .val (.long q2), .second, .val (.int p3), .val (.long (q2 &&& (9223372036854775807 : Int64))), .second, .val (.int (p3 &&& (3 : Int32))), .val (.long q1), .second, .val (.long (fn1 q1 (q2 &&& (9223372036854775807 : Int64)))), .second] [(.long q1), (.long (fn1 q1 (q2 &&& (9223372036854775807 : Int64))))])) (fun t k => XS.lload X7.here hx rfl (hb hby at_83) rfl k) ?_
        refine Goes.st (U' := T7.setTop (mkF m 87 #[.val (.long q1), .second, .val (.long q2), .second, .val (.int p3), .val (.long (q2 &&& (9223372036854775807 : Int64))), .second, .val (.int (p3 &&& (3 : Int32))), .val (.long q1), .second, .val (.long (fn1 q1 (q2 &&& (9223372036854775807 : Int64)))), .second] [(.long (q2 &&& (9223372036854775807 : Int64))), (.long q1), (.long (fn1 q1 (q2 &&& (9223372036854775807 : Int64))))])) (fun t k => XS.lload X7.here hx rfl (hb hby at_85) rfl k) ?_
        obtain ⟨_, _, ⟨T8, L8, k8, n8⟩, -, X8, ⟨Lc8, hQ8, l8, y8, z8⟩, st8⟩ := Jvm.LawKit.callS X7 hx (y := (⟨"com/example/dequeue/dequeue/model/DelayLevelTableDueAtMsPinLaw", "expected", "(JJ)J"⟩ : MethodName)) hown (mvT hZ (hw _ (List.mem_of_getElem? (i := 6) rfl))) (mvT hZ (hw _ (List.mem_of_getElem? (i := 7) rfl))) (mvT hZ (hw _ (List.mem_of_getElem? (i := 8) rfl))) (mvT hZ (hw _ (List.mem_of_getElem? (i := 9) rfl))) (by decide) (backOf (W := 2) (rm2 l Z a0 hw [] q1 (q2 &&& (9223372036854775807 : Int64)) h0 n0 Z0) hZ (hw _ (List.mem_of_getElem? (i := 9) rfl)) (hw _ (List.mem_of_getElem? (i := 8) rfl)) (by decide) (by decide)) (g := (mkF m 87 #[.val (.long q1), .second, .val (.long q2), .second, .val (.int p3), .val (.long (q2 &&& (9223372036854775807 : Int64))), .second, .val (.int (p3 &&& (3 : Int32))), .val (.long q1), .second, .val (.long (fn1 q1 (q2 &&& (9223372036854775807 : Int64)))), .second] [(.long (q2 &&& (9223372036854775807 : Int64))), (.long q1), (.long (fn1 q1 (q2 &&& (9223372036854775807 : Int64))))])) rfl (by rw [hml]; rfl) (argsL := [(.long q1), (.long (q2 &&& (9223372036854775807 : Int64)))]) (rest := [(.long (fn1 q1 (q2 &&& (9223372036854775807 : Int64))))]) (lenOf pd_0 rfl) rfl (by show 2 * 0 + _ ≤ _; exact Nat.le_of_eq rfl) (hb hby at_87) (fun _ _ => ⟨rfl, e7, (by decide : 0 + 0 ≤ _), (by decide : 0 + 0 ≤ _)⟩)
        dsimp only [Pt.U, Pt.locs, Pt.cells, Pt.slots] at X8 l8 y8 z8 st8 hQ8
        subst l8 y8 z8
        obtain ⟨rfl, N8q, e8⟩ := hQ8
        have N8 := Fr.app N7 N8q
        refine Goes.st (U' := T8.setTop (mkF m 90 #[.val (.long q1), .second, .val (.long q2), .second, .val (.int p3), .val (.long (q2 &&& (9223372036854775807 : Int64))), .second, .val (.int (p3 &&& (3 : Int32))), .val (.long q1), .second, .val (.long (fn1 q1 (q2 &&& (9223372036854775807 : Int64)))), .second] [(.long (fn2 q1 (q2 &&& (9223372036854775807 : Int64)))), (.long (fn1 q1 (q2 &&& (9223372036854775807 : Int64))))])) st8 ?_
        refine Goes.st (U' := T8.setTop (mkF m 91 #[.val (.long q1), .second, .val (.long q2), .second, .val (.int p3), .val (.long (q2 &&& (9223372036854775807 : Int64))), .second, .val (.int (p3 &&& (3 : Int32))), .val (.long q1), .second, .val (.long (fn1 q1 (q2 &&& (9223372036854775807 : Int64)))), .second] [(.int (lcmpW (fn1 q1 (q2 &&& (9223372036854775807 : Int64))) (fn2 q1 (q2 &&& (9223372036854775807 : Int64)))))])) (fun t k => XS.lcmp X8.here hx rfl (hb hby at_90) rfl k) ?_
        rcases Decidable.em ((fn1 q1 (q2 &&& (9223372036854775807 : Int64))) = (fn2 q1 (q2 &&& (9223372036854775807 : Int64)))) with hc91 | hc91
        · refine Goes.st (U' := T8.setTop (mkF m 94 #[.val (.long q1), .second, .val (.long q2), .second, .val (.int p3), .val (.long (q2 &&& (9223372036854775807 : Int64))), .second, .val (.int (p3 &&& (3 : Int32))), .val (.long q1), .second, .val (.long (fn1 q1 (q2 &&& (9223372036854775807 : Int64)))), .second] [])) (fun t k => XS.ifNo X8.here hx rfl (hb hby at_91) rfl ((if0 _ _).trans (teq ((lw_eq _ _).mpr hc91)).2) k) ?_
          refine Goes.st (U' := T8.setTop (mkF m 95 #[.val (.long q1), .second, .val (.long q2), .second, .val (.int p3), .val (.long (q2 &&& (9223372036854775807 : Int64))), .second, .val (.int (p3 &&& (3 : Int32))), .val (.long q1), .second, .val (.long (fn1 q1 (q2 &&& (9223372036854775807 : Int64)))), .second] [(.int (1 : Int32))])) (fun t k => XS.iconst X8.here hx rfl (hb hby at_94) k) ?_
          refine Goes.st (U' := T8.setTop (mkF m 99 #[.val (.long q1), .second, .val (.long q2), .second, .val (.int p3), .val (.long (q2 &&& (9223372036854775807 : Int64))), .second, .val (.int (p3 &&& (3 : Int32))), .val (.long q1), .second, .val (.long (fn1 q1 (q2 &&& (9223372036854775807 : Int64)))), .second] [(.int (1 : Int32))])) (fun t k => XS.goto X8.here hx rfl (pc0 := 95) (pc' := 99) rfl (hb hby at_95) (by decide) (by decide) k) ?_
          refine Goes.retZ X8 hx (BodyLoose.notSynchronized Bd) Bd.returns (hb hby at_99) rfl (by decide) (by decide) ?_
          show Q0 Z q1 q2 p3 h0 n0 _ T8.heap _
          rw [e8]
          exact ⟨(congrArg some (congrArg _ (by unfold fn0; rw [if_neg hc16]; rw [if_neg hc33]; rw [if_neg hc52]; rw [if_pos hc91]))), N8, rfl⟩
        · refine Goes.st (U' := T8.setTop (mkF m 98 #[.val (.long q1), .second, .val (.long q2), .second, .val (.int p3), .val (.long (q2 &&& (9223372036854775807 : Int64))), .second, .val (.int (p3 &&& (3 : Int32))), .val (.long q1), .second, .val (.long (fn1 q1 (q2 &&& (9223372036854775807 : Int64)))), .second] [])) (fun t k => XS.ifYes X8.here hx rfl (pc0 := 91) (pc' := 98) rfl (hb hby at_91) rfl ((if0 _ _).trans (feq (fun q => hc91 ((lw_eq _ _).mp q))).2) (by decide) (by decide) k) ?_
          refine Goes.st (U' := T8.setTop (mkF m 99 #[.val (.long q1), .second, .val (.long q2), .second, .val (.int p3), .val (.long (q2 &&& (9223372036854775807 : Int64))), .second, .val (.int (p3 &&& (3 : Int32))), .val (.long q1), .second, .val (.long (fn1 q1 (q2 &&& (9223372036854775807 : Int64)))), .second] [(.int (0 : Int32))])) (fun t k => XS.iconst X8.here hx rfl (hb hby at_98) k) ?_
          refine Goes.retZ X8 hx (BodyLoose.notSynchronized Bd) Bd.returns (hb hby at_99) rfl (by decide) (by decide) ?_
          show Q0 Z q1 q2 p3 h0 n0 _ T8.heap _
          rw [e8]
          exact ⟨(congrArg some (congrArg _ (by unfold fn0; rw [if_neg hc16]; rw [if_neg hc33]; rw [if_neg hc52]; rw [if_neg hc91]))), N8, rfl⟩
theorem own_due (f d : Int64) (hd : 0 ≤ d.toInt) : fn1 f d = fn2 f d := by
  unfold fn1 fn2
  have e : (9223372036854775807 : Int64).toInt = 9223372036854775807 := rfl
  have h1 := c_lsub (9223372036854775807 : Int64) d
  have h2 := rng64 ((9223372036854775807 : Int64) - d)
  have h3 := c_ladd f d
  have h4 := rng64 (f + d)
  have h5 := rng64 f
  have h6 := rng64 d
  rw [e] at h1
  by_cases h : ((9223372036854775807 : Int64) - d) < f
  · rw [if_pos h, if_pos]
    rw [Int64.lt_iff_toInt_lt] at h ⊢
    omega
  · rw [if_neg h, if_neg]
    rw [Int64.lt_iff_toInt_lt] at h ⊢
    omega
theorem own_pos (q : Int64) : 0 ≤ (q &&& (9223372036854775807 : Int64)).toInt := by
  rw [c_maskL q 9223372036854775807 63 (by decide) (by decide)]
  omega
theorem plain (q1 q2 : Int64) (p3 : Int32) : fn0 q1 q2 p3 = 1 := by
  have h : ∀ f, fn1 f (q2 &&& (9223372036854775807 : Int64)) = fn2 f (q2 &&& (9223372036854775807 : Int64)) := fun f => own_due f _ (own_pos q2)
  unfold fn0
  simp only [h, if_true, ite_self]
set_option maxRecDepth 65536 in
set_option maxHeartbeats 40000000 in
theorem comes_1 {Post : Tables → Env → Array Value → State → Outcome → State → Prop} (hpost : ∀ tb e args s v u, (limb_1_1.after args s (.returned v) u = true ∧ limb_1_2.after args s (.returned v) u = true ∧ True) → FrameEnd s (.returned v) u (Jvm.fieldLocs frame_1_writes args s ++ Jvm.arrayLocs frame_1_arrays args s ++ Jvm.staticLocs frame_1_statics s) 0 0 → Post tb e args s (.returned v) u) :
    ArmFor flags0 classFile x code maxLocals ret World_1 tables_1 room_1 Calls_1 rest_1 Pre_1 Post := by
  intro l hfl _ _ p e ha hc hk s m args below hf hA hF happ hP
  obtain ⟨hcalls, hrest, hpre⟩ := hP
  obtain ⟨-, -, -, hnamed, -, -, -, hat⟩ := (Spec.applies_iff hf).mp happ
  obtain ⟨hg, hn⟩ := and_e (Cond.before_iff.mp (show (Jvm.Cond.and given_1 narrow_1).before args s = true from hpre))
  obtain ⟨gg1, gg2⟩ := and_e hg
  obtain ⟨gg3, gg4⟩ := and_e gg2
  obtain ⟨gg5, gg6⟩ := and_e gg4
  obtain ⟨w0, w1, w2, rfl⟩ : ∃ w0 w1 w2 : Value, args = #[w0, w1, w2] := by
    have hs : args.size = 3 := by simpa [Cond.value, given_1] using gg1
    obtain ⟨L⟩ := args
    match L, hs with
    | [w0, w1, w2], _ => exact ⟨w0, w1, w2, rfl⟩
  have hw := fun d (hd : d ∈ tables_1) => atoms_spec (ws := Jvm.Cond.code x code maxLocals ret :: tables_1) hat d (List.mem_cons_of_mem _ hd)
  obtain ⟨i0, ei0⟩ := isL_v gg3
  obtain rfl : w0 = (.long i0) := Option.some.inj ei0
  obtain ⟨i1, ei1⟩ := isL_v gg5
  obtain rfl : w1 = (.long i1) := Option.some.inj ei1
  obtain ⟨i2, ei2⟩ := is_v gg6
  obtain rfl : w2 = (.int i2) := Option.some.inj ei2
  obtain ⟨n, o, h1, h2, h3, v, L, rfl, hQ, hq⟩ := rm0 l s _ hw tables_1 i0 i1 i2 s.heap s.heap.size (Nat.le_refl _) p e ha hc hk s m _ below hf ((Spec.applies_iff_loose hf).mp happ).1 ⟨rfl, State.Warmed39.refl s, rfl⟩ trivial
  obtain ⟨hv, N, -⟩ := hQ
  rw [plain] at hv
  subst hv
  exact ⟨n, _, h1, h2, h3, hpost _ _ _ _ _ _ ⟨Cond.after_iff.mpr rfl, Cond.after_iff.mpr (eq_i res_at (Term.int_eval (1)) rfl), trivial⟩ ⟨hq.1, hq.2.1, (hq.2.2.sift fun y hy => Or.inr (N y hy)).mono (by decide) (by decide)⟩⟩
theorem main_1_1 : Claimed_1_1 := comes_1 fun _ _ _ _ _ _ h hF => ⟨h.1, hF⟩
theorem main_1_2 : Claimed_1_2 := comes_1 fun _ _ _ _ _ _ h hF => ⟨h.2.1, hF⟩
end Jvm.Pilot.@@N@@
namespace Jvm.Pilot.@@N@@
open Jvm Jvm.ClassFile Sem Op Lib Jvm.Free Jvm.Stand Jvm.Pilot.@@N@@.Jvm.D
/-! MADE BY PROGRAM (witnessworld.py) out of the Statement's table words and the real class files: 9 classes; the members and pool entries that the words name. The judged class is class 1, her method 1. -/
namespace start1
open Jvm.ClassFile
def u (s : String) : CpInfo := .utf8 (stringToUtf16 s)
/-- a pool by its gaps: so many unusable entries, then the entry; so many at the end -/
def gap : Nat → List CpInfo → List CpInfo
  | 0, r => r
  | n + 1, r => .unusable :: gap n r
def poolList (es : List (Nat × CpInfo)) (last : Nat) : List CpInfo := es.foldr (fun e r => gap e.1 (e.2 :: r)) (gap last [])
def pool (es : List (Nat × CpInfo)) (last : Nat) : Array CpInfo := ⟨poolList es last⟩
def fileOf (pool : Array CpInfo) (this : Nat) (attrs : Array Attribute := #[]) (ms : Array MethodInfo := #[]) (fl : Nat := 33) (sup : Nat := 0) (ifs : Array Nat := #[]) (fds : Array FieldInfo := #[]) : ClassFile where
  minorVersion := 0
  majorVersion := 65
  constantPool := pool
  accessFlags := fl
  thisClass := this
  superClass := sup
  interfaces := ifs
  fields := fds
  methods := ms
  attributes := attrs
def plain (name : String) (sup : Option ClassId) : Class where
  name := name
  kind := .ordinary
  loader := none
  accessFlags := 33
  super := sup
  interfaces := #[]
  cf := none
  fields := #[]
  methods := #[]
  instanceTypes := #[]
  staticTypes := #[]
  resolved := #[]
  callSites := []
  init := .initialized
  statics := none
  mirror := none

def pool0 : Array CpInfo := pool [(5, u "<init>"), (0, u "()V"), (1, .class_ 10), (1, u "java/lang/Object")] 113

def k0m0 : Method := { name := "<init>", desc := "()V", sig := { parameters := [], returnType := none }, accessFlags := 1, code := none }
/-- java/lang/Object -/
def k0 : Class := { plain "java/lang/Object" none with
  accessFlags := 33
  interfaces := #[]
  cf := some (fileOf pool0 8 #[] #[{ accessFlags := 1, nameIndex := 5, descriptorIndex := 6, attributes := #[] }] 33 0 #[] #[])
  fields := #[]
  methods := #[k0m0]
  instanceTypes := #[]
  staticTypes := #[]
  resolved := Array.replicate 124 none
  statics := none }

def pool1 : Array CpInfo := pool [(2, .class_ 4), (1, u "java/lang/Object"), (0, u "<init>"), (0, u "()V"), (2, .long 9223372036854775807), (1, .long 9223372036854775808), (1, .long 65535), (1, .methodref 16 17), (0, .class_ 18), (0, .nameAndType 19 20), (0, u "com/example/dequeue/dequeue/model/DelayLevelTable"), (0, u "dueAtMs"), (0, u "(JJ)J"), (0, .methodref 22 23), (0, .class_ 24), (0, .nameAndType 25 20), (0, u "com/example/dequeue/dequeue/model/DelayLevelTableDueAtMsPinLaw"), (0, u "expected"), (2, u "law"), (0, u "(JJI)Z")] 3

def k1m0 : Method := { name := "<init>", desc := "()V", sig := { parameters := [], returnType := none }, accessFlags := 1, code := none }
def k1c1 : Code := { maxStack := 6, maxLocals := 12, code := code, exceptionTable := #[], attributes := #[] }
def k1m1 : Method := { name := "law", desc := "(JJI)Z", sig := { parameters := [.long, .long, .int], returnType := some .boolean }, accessFlags := 9, code := some k1c1 }
def k1c2 : Code := { maxStack := 4, maxLocals := 6, code := method_3_code, exceptionTable := #[], attributes := #[] }
def k1m2 : Method := { name := "expected", desc := "(JJ)J", sig := { parameters := [.long, .long], returnType := some .long }, accessFlags := 10, code := some k1c2 }
/-- com/example/dequeue/dequeue/model/DelayLevelTableDueAtMsPinLaw -/
def k1 : Class := { plain "com/example/dequeue/dequeue/model/DelayLevelTableDueAtMsPinLaw" (some 0) with
  accessFlags := 49
  interfaces := #[]
  cf := some (fileOf pool1 22 #[] #[{ accessFlags := 1, nameIndex := 5, descriptorIndex := 6, attributes := #[] }, { accessFlags := 9, nameIndex := 28, descriptorIndex := 29, attributes := #[] }, { accessFlags := 10, nameIndex := 25, descriptorIndex := 20, attributes := #[] }] 49 2 #[] #[])
  fields := #[]
  methods := #[k1m0, k1m1, k1m2]
  instanceTypes := #[]
  staticTypes := #[]
  resolved := Array.replicate 33 none
  statics := none }

def pool2 : Array CpInfo := pool [(2, .class_ 4), (1, u "java/lang/Object"), (3, .class_ 10), (1, u "com/example/dequeue/dequeue/model/DelayLevelTable"), (0, u "delaysMs"), (0, u "[J"), (72, u "dueAtMs"), (0, u "(JJ)J"), (2, .long 9223372036854775807), (62, u "DEFAULT"), (0, u "Lcom/example/dequeue/dequeue/model/DelayLevelTable;"), (0, u "NO_DELAY"), (0, u "I")] 54

def k2c0 : Code := { maxStack := 6, maxLocals := 4, code := prog_24_method_6_code, exceptionTable := #[], attributes := #[] }
def k2m0 : Method := { name := "dueAtMs", desc := "(JJ)J", sig := { parameters := [.long, .long], returnType := some .long }, accessFlags := 9, code := some k2c0 }
/-- com/example/dequeue/dequeue/model/DelayLevelTable -/
def k2 : Class := { plain "com/example/dequeue/dequeue/model/DelayLevelTable" (some 0) with
  accessFlags := 49
  interfaces := #[]
  cf := some (fileOf pool2 8 #[] #[{ accessFlags := 9, nameIndex := 85, descriptorIndex := 86, attributes := #[] }] 49 2 #[] #[{ accessFlags := 25, nameIndex := 154, descriptorIndex := 155, attributes := #[] }, { accessFlags := 25, nameIndex := 152, descriptorIndex := 153, attributes := #[] }, { accessFlags := 18, nameIndex := 11, descriptorIndex := 12, attributes := #[] }])
  fields := #[{ name := "NO_DELAY", type := .int, accessFlags := 25, slot := 0, constantValue := 0 }, { name := "DEFAULT", type := (.object "com/example/dequeue/dequeue/model/DelayLevelTable"), accessFlags := 25, slot := 1, constantValue := 0 }, { name := "delaysMs", type := (.array .long), accessFlags := 18, slot := 0, constantValue := 0 }]
  methods := #[k2m0]
  instanceTypes := #[(.array .long)]
  staticTypes := #[.int, (.object "com/example/dequeue/dequeue/model/DelayLevelTable")]
  resolved := Array.replicate 210 none
  statics := none }

def pool3 : Array CpInfo := pool [(1, u "java/lang/Cloneable"), (0, .class_ 1), (0, u "java/lang/Object"), (0, .class_ 3)] 3

/-- java/lang/Cloneable -/
def k3 : Class := { plain "java/lang/Cloneable" (some 0) with
  accessFlags := 1537
  interfaces := #[]
  cf := some (fileOf pool3 2 #[] #[] 1537 4 #[] #[])
  fields := #[]
  methods := #[]
  instanceTypes := #[]
  staticTypes := #[]
  resolved := Array.replicate 8 none
  statics := none }

def pool4 : Array CpInfo := pool [(1, u "java/io/Serializable"), (0, .class_ 1), (0, u "java/lang/Object"), (0, .class_ 3)] 3

/-- java/io/Serializable -/
def k4 : Class := { plain "java/io/Serializable" (some 0) with
  accessFlags := 1537
  interfaces := #[]
  cf := some (fileOf pool4 2 #[] #[] 1537 4 #[] #[])
  fields := #[]
  methods := #[]
  instanceTypes := #[]
  staticTypes := #[]
  resolved := Array.replicate 8 none
  statics := none }

/-- the primitive byte -/
def k5 : Class := { plain "byte" none with kind := .primitive 'B', accessFlags := 0x411 }
/-- [B -/
def k6 : Class := { plain "[B" (some 0) with kind := .array 5 .byte, interfaces := #[3, 4], accessFlags := 1041 }

/-- the primitive int -/
def k7 : Class := { plain "int" none with kind := .primitive 'I', accessFlags := 0x411 }
/-- [I -/
def k8 : Class := { plain "[I" (some 0) with kind := .array 7 .int, interfaces := #[3, 4], accessFlags := 1041 }

def heap : Heap := #[]
def classes : Array Class := #[k0, k1, k2, k3, k4, k5, k6, k7, k8]
def interned : List (Array UInt16 × Addr) := []
def slotsUsed : Nat := 0
def theMethod : MethodId := ⟨1, 1⟩
def args0 : Array Value := #[.long 5, .long 6, .int 1]
def aboutOver (below : List Frame) : State where
  vm := { classes := classes, interned := interned.toArray }
  heap := heap
  slotsUsed := slotsUsed
  threads := #[{ frames := .invoking theMethod args0 :: below }]
def below0 : List Frame := [.native { method := ⟨0, 0⟩, args := #[] }]
def about1 : State := aboutOver below0
def p0 : Program := .bare "" "" ""
def e0 : Env := launch0.env 0 0 0
theorem w_frames : about1.frames = Frame.invoking theMethod args0 :: below0 := rfl
set_option maxRecDepth 65536 in
theorem w_args : argsFit about1.vm theMethod args0 = true := by decide +kernel
set_option maxRecDepth 65536 in
theorem w_heap : heapFits about1 = true := by decide +kernel
set_option maxRecDepth 65536 in
theorem w_runnable : about1.curStatus? = some .runnable := by decide +kernel
set_option maxRecDepth 65536 in
theorem w_alone : about1.alone = true := by decide +kernel
set_option maxRecDepth 65536 in
theorem w_named : about1.methodNamed? x = some theMethod := by decide +kernel
set_option maxRecDepth 65536 in
theorem w_hears : about1.hears theMethod below0 = true := by decide +kernel
set_option maxRecDepth 65536 in
theorem w_ripe : about1.ripe theMethod args0 below0 = true := by decide +kernel
theorem w_running : about1.status = .running := rfl
set_option maxRecDepth 65536 in
theorem w_room : about1.hasRoom e0.platform room_1 = true :=
  launch0.hasRoom_least _ room_1 (by decide +kernel) (by decide +kernel) (by decide +kernel) (by decide +kernel) (by decide +kernel) (by decide +kernel)
theorem allAtoms_all (ts : List Jvm.Cond) (a : Array Jvm.Value) (st : Jvm.State) : (allAtoms ts).before a st = ts.all (fun c => c.before a st) := by
  induction ts with
  | nil => rfl
  | cons c t ih =>
    show (Jvm.Cond.and c (allAtoms t)).before a st = _
    rw [Jvm.Cond.before_and, ih, List.all_cons]
def words1 : List Jvm.Cond := Jvm.Cond.code x code maxLocals ret :: tables_1
/-- a 'code' word, met by the world's own term for the bytes: nothing is compared byte by byte -/
theorem code_word {y : MethodName} {bytes : ByteArray} {mx : Nat} {rt : Option FieldType} {a : Array Value} {s : State} {m : MethodId} {meth : Method} {c : Code} (h1 : s.methodNamed? y = some m) (h2 : s.vm.method? m = some meth) (h3 : meth.code = some c) (h4 : c.code = bytes)
    (h5 : (c.maxLocals == mx && c.exceptionTable.isEmpty && decide (c.maxStack ≤ mostOperands) && decide (meth.sig.returnType = rt) && !meth.locks && decide (parseMethodDescriptor y.desc = some meth.sig)) = true) : (Jvm.Cond.code y bytes mx rt).before a s = true := by
  simp only [Bool.and_eq_true, beq_iff_eq, Bool.not_eq_true', decide_eq_true_eq] at h5
  obtain ⟨⟨⟨⟨⟨g1, g2⟩, g3⟩, g4⟩, g5⟩, g6⟩ := h5
  simp [Cond.before, Cond.holds, Cond.value, h1, h2, h3, h4, g1, g2, g3, g4, g5, g6]
def isCode : Jvm.Cond → Bool
  | .code _ _ _ _ => true
  | _ => false
theorem all_split {L : List Jvm.Cond} {P : Jvm.Cond → Bool} (h1 : L.all (fun c => isCode c || P c) = true) (h2 : ∀ c ∈ L.filter isCode, P c = true) : L.all P = true := by
  refine List.all_eq_true.mpr fun c hc => ?_
  have h := List.all_eq_true.mp h1 c hc
  rcases Bool.eq_false_or_eq_true (isCode c) with hi | hi
  · exact h2 c (List.mem_filter.mpr ⟨hc, hi⟩)
  · simpa [hi] using h
set_option maxRecDepth 65536 in
theorem w_c0 : (Jvm.Cond.code x code maxLocals ret).before args0 about1 = true := code_word (m := ⟨1, 1⟩) (meth := k1m1) (c := k1c1) (by decide +kernel) rfl rfl rfl (by decide +kernel)
set_option maxRecDepth 65536 in
theorem w_c1 : (Jvm.Cond.code ({ cls := "com/example/dequeue/dequeue/model/DelayLevelTable", name := "dueAtMs", desc := "(JJ)J" } : Jvm.MethodName) prog_24_method_6_code (4 : Nat) (Option.some Jvm.ClassFile.FieldType.long)).before args0 about1 = true := code_word (m := ⟨2, 0⟩) (meth := k2m0) (c := k2c0) (by decide +kernel) rfl rfl rfl (by decide +kernel)
set_option maxRecDepth 65536 in
theorem w_c2 : (Jvm.Cond.code ({ cls := "com/example/dequeue/dequeue/model/DelayLevelTableDueAtMsPinLaw", name := "expected", desc := "(JJ)J" } : Jvm.MethodName) method_3_code (6 : Nat) (Option.some Jvm.ClassFile.FieldType.long)).before args0 about1 = true := code_word (m := ⟨1, 2⟩) (meth := k1m2) (c := k1c2) (by decide +kernel) rfl rfl rfl (by decide +kernel)
def codes1 : List Jvm.Cond := [Jvm.Cond.code x code maxLocals ret, Jvm.Cond.code ({ cls := "com/example/dequeue/dequeue/model/DelayLevelTable", name := "dueAtMs", desc := "(JJ)J" } : Jvm.MethodName) prog_24_method_6_code (4 : Nat) (Option.some Jvm.ClassFile.FieldType.long), Jvm.Cond.code ({ cls := "com/example/dequeue/dequeue/model/DelayLevelTableDueAtMsPinLaw", name := "expected", desc := "(JJ)J" } : Jvm.MethodName) method_3_code (6 : Nat) (Option.some Jvm.ClassFile.FieldType.long)]
set_option maxRecDepth 65536 in
theorem codes_eq : words1.filter isCode = codes1 := rfl
theorem w_codes : ∀ c ∈ words1.filter isCode, c.before args0 about1 = true := by
  rw [codes_eq]
  intro c hc
  simp only [codes1, List.mem_cons, List.not_mem_nil, or_false] at hc
  rcases hc with rfl | rfl | rfl
  · exact w_c0
  · exact w_c1
  · exact w_c2
set_option maxRecDepth 65536 in
theorem w_t1 : words1.all (fun c => isCode c || c.before args0 about1) = true := by decide +kernel
theorem w_tables : (allAtoms (Jvm.Cond.code x code maxLocals ret :: tables_1)).before args0 about1 = true := by
  rw [allAtoms_all]
  show words1.all (fun c => c.before args0 about1) = true
  refine all_split ?_ w_codes
  rw [w_t1]
set_option maxRecDepth 65536 in
theorem w_case : (Jvm.Cond.and given_1 narrow_1).before args0 about1 = true := by decide +kernel
theorem w_applies : (headSpec (Jvm.Cond.code x code maxLocals ret :: tables_1) room_1).applies x e0.platform about1 = true :=
  (Spec.applies_iff w_frames).mpr ⟨w_running, w_runnable, w_alone, w_named, w_hears, w_ripe, w_room, w_tables⟩
theorem atStart : AtStart classFile x code maxLocals ret World_1 tables_1 room_1 Calls_1 rest_1 Pre_1 launch0 p0 e0 about1 theMethod args0 below0 :=
  ⟨lists_1, trivial, launch0.admits_env _ _ _, launch0.least_env, fairChoices_fair.cas, fairChoices_fair.clock, w_frames, w_args, w_heap, w_applies, trivial, trivial, w_case⟩
end start1
theorem witness_1 : WitnessClaimed_1 := ⟨start1.p0, start1.e0, start1.about1, start1.theMethod, start1.args0, start1.below0, start1.atStart⟩
end Jvm.Pilot.@@N@@
