import JvmDerived
import JvmDerived.Pilot.@@N@@Statement
import JvmDerived.Pilot.@@N@@Code
set_option linter.unusedVariables false
set_option linter.unusedSimpArgs false
namespace Jvm.Pilot.@@N@@
open Jvm Jvm.ClassFile Sem Op Lib Jvm.Free Jvm.Stand Jvm.LawKit Jvm.RoadKit Bundle Jvm.Pilot.@@N@@.Jvm.D
/-! OWN PRELUDE: a walk in continuation form: 'Goes .. U': from U on the body comes to its return, with Q -/
section OwnPrelude
variable {p : Program} {l : Launch} {e : Env} {R : Room} {s : State} {m : MethodId} {args : Array Value} {below : List Frame} {meth : Method} {c : Code} {T U U' : State} {locs : List Loc} {cells slots ce sl : Nat} {Q : Option Value → Heap → List Loc → Prop}
def Goes (p : Program) (e : Env) (s : State) (below : List Frame) (Q : Option Value → Heap → List Loc → Prop) (ce sl : Nat) (U : State) : Prop :=
  ∃ t o, Steps p.tables e below U t ∧ t.status = .running ∧ Ended t below o ∧ ∃ v L, o = .returned v ∧ Q v t.heap L ∧ FrameEnd s o t L ce sl
theorem Goes.st (h : ∀ t, Steps p.tables e below U' t → Steps p.tables e below U t) (k : Goes p e s below Q ce sl U') : Goes p e s below Q ce sl U := by
  obtain ⟨t, o, h1, r⟩ := k
  exact ⟨t, o, h t h1, r⟩
theorem Goes.tr (h : Steps p.tables e below U U') (k : Goes p e s below Q ce sl U') : Goes p e s below Q ce sl U := by
  obtain ⟨t, o, h1, r⟩ := k
  exact ⟨t, o, h.trans h1, r⟩
theorem Goes.out (X : Stand p l e R s m args below meth c T locs cells slots) (hlocks : meth.locks = false) {v : Option Value} (hv : meth.sig.returnType = none → v = none) (hc : cells ≤ ce) (hs : slots ≤ sl) (hq : Q v T.heap locs)
    (k : ∀ fs, (∀ (f : JFrame) (acts : List Action), f.method = m → f.locked = none → f.entered = [] → (doReturn e (T.setTop f) acts v).1 = T.setFrames fs) → Steps p.tables e below U (T.setFrames fs)) : Goes p e s below Q ce sl U := by
  obtain ⟨fs, hr, hrun, hended, hW, hsame⟩ := X.leave (v := v) hv hlocks
  exact ⟨_, _, k fs hr, hrun, hended, _, _, rfl, hq, ⟨_, rfl⟩, hW, hsame.mono hc hs⟩
theorem Goes.retI (X : Stand p l e R s m args below meth c T locs cells slots) (hx : p.tables.exec = Jvm.exec) (hlocks : meth.locks = false) {pc : Nat} {Ls : Array Slot} {z : Int32} {rest : List Value} (hret : meth.sig.returnType = some .int) (hd : decode c.code pc = .ok (.ireturn, 1))
    (hc : cells ≤ ce) (hs : slots ≤ sl) (hq : Q (some (.int z)) T.heap locs) : Goes p e s below Q ce sl (T.setTop (mkF m pc Ls (.int z :: rest))) :=
  Goes.out X hlocks (fun h => by rw [hret] at h; cases h) hc hs hq fun fs hl => retOut X hx hret rfl (Or.inl ⟨rfl, Or.inl rfl, _, rfl⟩) hd hl
theorem Goes.retZ (X : Stand p l e R s m args below meth c T locs cells slots) (hx : p.tables.exec = Jvm.exec) (hlocks : meth.locks = false) {pc : Nat} {Ls : Array Slot} {z : Int32} {rest : List Value} (hret : meth.sig.returnType = some .boolean) (hd : decode c.code pc = .ok (.ireturn, 1))
    (hz : z &&& 1 = z) (hc : cells ≤ ce) (hs : slots ≤ sl) (hq : Q (some (.int z)) T.heap locs) : Goes p e s below Q ce sl (T.setTop (mkF m pc Ls (.int z :: rest))) :=
  Goes.out X hlocks (fun h => by rw [hret] at h; cases h) hc hs hq fun fs hl => retOut X hx hret (by show Value.int (z &&& 1) = _; rw [hz]) (Or.inl ⟨rfl, Or.inr (Or.inl rfl), _, rfl⟩) hd hl
theorem Goes.retJ (X : Stand p l e R s m args below meth c T locs cells slots) (hx : p.tables.exec = Jvm.exec) (hlocks : meth.locks = false) {pc : Nat} {Ls : Array Slot} {z : Int64} {rest : List Value} (hret : meth.sig.returnType = some .long) (hd : decode c.code pc = .ok (.lreturn, 1))
    (hc : cells ≤ ce) (hs : slots ≤ sl) (hq : Q (some (.long z)) T.heap locs) : Goes p e s below Q ce sl (T.setTop (mkF m pc Ls (.long z :: rest))) :=
  Goes.out X hlocks (fun h => by rw [hret] at h; cases h) hc hs hq fun fs hl => retOut X hx hret rfl (Or.inr (Or.inl ⟨rfl, rfl, _, rfl⟩)) hd hl
theorem Goes.retA (X : Stand p l e R s m args below meth c T locs cells slots) (hx : p.tables.exec = Jvm.exec) (hlocks : meth.locks = false) {pc : Nat} {Ls : Array Slot} {w : Value} {t : FieldType} {rest : List Value} (hret : meth.sig.returnType = some t) (hd : decode c.code pc = .ok (.areturn, 1))
    (ht : t.isReference = true) (hw : w.isRef = true) (hn : narrow t w = w) (hc : cells ≤ ce) (hs : slots ≤ sl) (hq : Q (some w) T.heap locs) : Goes p e s below Q ce sl (T.setTop (mkF m pc Ls (w :: rest))) :=
  Goes.out X hlocks (fun h => by rw [hret] at h; cases h) hc hs hq fun fs hl => retOut X hx hret hn (Or.inr (Or.inr (Or.inr (Or.inr ⟨rfl, ht, hw⟩)))) hd hl
theorem Goes.retV (X : Stand p l e R s m args below meth c T locs cells slots) (hx : p.tables.exec = Jvm.exec) (hlocks : meth.locks = false) {pc : Nat} {Ls : Array Slot} (hret : meth.sig.returnType = none) (hd : decode c.code pc = .ok (.return_, 1))
    (hc : cells ≤ ce) (hs : slots ≤ sl) (hq : Q none T.heap locs) : Goes p e s below Q ce sl (T.setTop (mkF m pc Ls [])) :=
  Goes.out X hlocks (fun _ => rfl) hc hs hq fun fs hl => X.returnOut hx hret hd hl
/-- a boolean as the machine has it -/
def b2i (b : Bool) : Int32 := if b then 1 else 0
theorem b2i_one (b : Bool) : b2i b &&& 1 = b2i b := by cases b <;> rfl
theorem b2i_t {b : Bool} (h : ¬ b2i b = 0) : b = true := by cases b; exact absurd rfl h; rfl
theorem b2i_f {b : Bool} (h : b2i b = 0) : b = false := by cases b; rfl; exact absurd h (by decide)
theorem Exa_ns {Z : State} {h : Heap} {a : Addr} {C : String} (E : Exa Z h a C) : ∀ cell : Cell, h[a]? = some cell → cell.vm.isStatics = false := fun cell hc => by
  obtain ⟨c1, _, h1, -, -, h4, -⟩ := E
  cases h1.symm.trans hc
  exact h4
theorem Sta_keep {Z : State} {h h' : Heap} {C n d : String} {v : Value} {ws : List Addr} (F : Sta Z h C n d v) (K : Keep h h' ws) (q : ∀ x ∈ ws, ∀ cell : Cell, h[x]? = some cell → cell.vm.isStatics = false) : Sta Z h' C n d v := by
  obtain ⟨cf, i, k, f, st, cell, h1, h2, h3, h4, h5, h6, h7⟩ := F
  exact ⟨cf, i, k, f, st, cell, h1, h2, h3, h4, K.2.1 _ _ h5 (fun y => by have := q _ y _ h5; rw [h6] at this; cases this), h6, h7⟩
theorem own_selp {u : State} {as : Array Value} {y : MethodName} {n : Nat} (hins : (Cond.instantiable y.cls n).before as u = true) (hpriv : u.PrivateAt y) (hinst : (Cond.instanceMethod y).before as u = true) (hy : y.cls ≠ "java/lang/invoke/MethodHandle" ∧ y.cls ≠ "java/lang/invoke/VarHandle") : (Cond.selects y.cls y y).before as u = true := by
  obtain ⟨c, k, hc, hk, -, hniab, -, -⟩ := Cond.instantiable_spec hins
  exact selects_self_of_private hc hk (Bool.or_eq_false_iff.mp hniab).1 hpriv hinst hy
end OwnPrelude

theorem d1_0 : decode prog_45_method_2_code 0 = .ok (.iload_n 0, 1) := by decide +kernel
theorem d1_1 : decode prog_45_method_2_code 1 = .ok (.iconst 1, 1) := by decide +kernel
theorem d1_2 : decode prog_45_method_2_code 2 = .ok (.if_icmp .lt 12, 3) := by decide +kernel
theorem d1_5 : decode prog_45_method_2_code 5 = .ok (.iload_n 0, 1) := by decide +kernel
theorem d1_6 : decode prog_45_method_2_code 6 = .ok (.iconst 3, 1) := by decide +kernel
theorem d1_7 : decode prog_45_method_2_code 7 = .ok (.if_icmp .gt 7, 3) := by decide +kernel
theorem d1_10 : decode prog_45_method_2_code 10 = .ok (.iconst 1, 1) := by decide +kernel
theorem d1_11 : decode prog_45_method_2_code 11 = .ok (.goto 4, 3) := by decide +kernel
theorem d1_14 : decode prog_45_method_2_code 14 = .ok (.iconst 0, 1) := by decide +kernel
theorem d1_15 : decode prog_45_method_2_code 15 = .ok (.ireturn, 1) := by decide +kernel
theorem pn_0 : plainName "com/example/dequeue/dequeue/store/MessageCodec" = true := by first | (simp [plainName, overriddenIn]; done) | decide +kernel
theorem ef_rm1 (m : MethodId) (p1 : Int32) : entryFrame m #[(.int p1)] 1 = mkF m 0 #[.val (.int p1)] [] := by first | (simp [entryFrame, mkF, argsToLocals, Value.category]; done) | rfl
def fn1 (p1 : Int32) : Int32 := (if p1 < (1 : Int32) then (0 : Int32) else (if (3 : Int32) < p1 then (0 : Int32) else (1 : Int32)))
def Q1 (Z : State) (p1 : Int32) (h0 : Heap) (n0 : Nat) (v : Option Value) (h : Heap) (L : List Loc) : Prop := v = some (.int (fn1 p1)) ∧ Fr n0 L ∧ h = h0
set_option maxRecDepth 65536 in
set_option maxHeartbeats 40000000 in
theorem rm1 (l : Launch) (Z : State) (a0 : Array Value) (hw : ∀ d ∈ tables_1, d.before a0 Z = true) (ws : List Jvm.Cond) (p1 : Int32) (h0 : Heap) (n0 : Nat) (Z0 : n0 ≤ h0.size) :
    MetFree l (⟨"com/example/dequeue/dequeue/store/MessageCodec", "readable", "(B)Z"⟩ : MethodName) (head1 (Jvm.Cond.code (⟨"com/example/dequeue/dequeue/store/MessageCodec", "readable", "(B)Z"⟩ : MethodName) prog_45_method_2_code 1 (some .boolean) :: ws) ({ frames := 0, cells := 0, slots := 0, locals := 0 } : Room)) (fun a U => a = #[(.int p1)] ∧ Z.Warmed39 U.vm ∧ U.heap = h0) (fun _ _ _ _ _ => True) (fun _ U o U' => ∃ v L, o = .returned v ∧ Q1 Z p1 h0 n0 v U'.heap L ∧ FrameEnd U o U' L ({ frames := 0, cells := 0, slots := 0, locals := 0 } : Room).cells ({ frames := 0, cells := 0, slots := 0, locals := 0 } : Room).slots) := by
  refine MetFree.of_bodySF (plainFor_of_name pn_0) hisR ?_
  intro p e s m args below meth c s₁ Bd hml0 hP hK
  obtain ⟨rfl, hZ, hh⟩ := hP
  have hx := Bd.exec
  have hby := Bd.bytes
  have hml : c.maxLocals = 1 := hml0
  have hown : s.vm.findClass "com/example/dequeue/dequeue/store/MessageCodec" = some m.cls := findClass_of_methodNamed Bd.named
  have hnm := (name_of_methodNamed Bd.named Bd.method).1
  have X0 : Stand p l e ({ frames := 0, cells := 0, slots := 0, locals := 0 } : Room) s m #[(.int p1)] below meth c s₁ [] 0 0 := Stand.of_body Bd
  have e0 : s₁.heap = h0 := by rw [← hh, Bd.state]; rfl
  have N0 := Fr.nil n0
  show Goes p e s below (fun v h L => Q1 Z p1 h0 n0 v h L) ({ frames := 0, cells := 0, slots := 0, locals := 0 } : Room).cells ({ frames := 0, cells := 0, slots := 0, locals := 0 } : Room).slots (s₁.setTop (entryFrame m #[(.int p1)] 1))
  refine Goes.st (U' := s₁.setTop (mkF m 0 #[.val (.int p1)] [])) (fun t k => castTop (ef_rm1 m p1) k) ?_
  refine Goes.st (U' := s₁.setTop (mkF m 1 #[.val (.int p1)] [(.int p1)])) (fun t k => XS.iloadN X0.here hx rfl (hb hby d1_0) rfl k) ?_
  refine Goes.st (U' := s₁.setTop (mkF m 2 #[.val (.int p1)] [(.int (1 : Int32)), (.int p1)])) (fun t k => XS.iconst X0.here hx rfl (hb hby d1_1) k) ?_
  rcases Decidable.em (p1 < (1 : Int32)) with hc2 | hc2
  · refine Goes.st (U' := s₁.setTop (mkF m 14 #[.val (.int p1)] [])) (fun t k => XS.icmpYes X0.here hx rfl (pc0 := 2) (pc' := 14) rfl (hb hby d1_2) rfl (tlt hc2).1 (by decide) (by decide) k) ?_
    refine Goes.st (U' := s₁.setTop (mkF m 15 #[.val (.int p1)] [(.int (0 : Int32))])) (fun t k => XS.iconst X0.here hx rfl (hb hby d1_14) k) ?_
    refine Goes.retZ X0 hx (BodyLoose.notSynchronized Bd) Bd.returns (hb hby d1_15) rfl (by decide) (by decide) ?_
    show Q1 Z p1 h0 n0 _ s₁.heap _
    rw [e0]
    exact ⟨(congrArg some (congrArg _ (by unfold fn1; rw [if_pos hc2]))), N0, rfl⟩
  · refine Goes.st (U' := s₁.setTop (mkF m 5 #[.val (.int p1)] [])) (fun t k => XS.icmpNo X0.here hx rfl (hb hby d1_2) rfl (flt hc2).1 k) ?_
    refine Goes.st (U' := s₁.setTop (mkF m 6 #[.val (.int p1)] [(.int p1)])) (fun t k => XS.iloadN X0.here hx rfl (hb hby d1_5) rfl k) ?_
    refine Goes.st (U' := s₁.setTop (mkF m 7 #[.val (.int p1)] [(.int (3 : Int32)), (.int p1)])) (fun t k => XS.iconst X0.here hx rfl (hb hby d1_6) k) ?_
    rcases Decidable.em ((3 : Int32) < p1) with hc7 | hc7
    · refine Goes.st (U' := s₁.setTop (mkF m 14 #[.val (.int p1)] [])) (fun t k => XS.icmpYes X0.here hx rfl (pc0 := 7) (pc' := 14) rfl (hb hby d1_7) rfl (tlt hc7).2.2.1 (by decide) (by decide) k) ?_
      refine Goes.st (U' := s₁.setTop (mkF m 15 #[.val (.int p1)] [(.int (0 : Int32))])) (fun t k => XS.iconst X0.here hx rfl (hb hby d1_14) k) ?_
      refine Goes.retZ X0 hx (BodyLoose.notSynchronized Bd) Bd.returns (hb hby d1_15) rfl (by decide) (by decide) ?_
      show Q1 Z p1 h0 n0 _ s₁.heap _
      rw [e0]
      exact ⟨(congrArg some (congrArg _ (by unfold fn1; rw [if_neg hc2]; rw [if_pos hc7]))), N0, rfl⟩
    · refine Goes.st (U' := s₁.setTop (mkF m 10 #[.val (.int p1)] [])) (fun t k => XS.icmpNo X0.here hx rfl (hb hby d1_7) rfl (flt hc7).2.2.1 k) ?_
      refine Goes.st (U' := s₁.setTop (mkF m 11 #[.val (.int p1)] [(.int (1 : Int32))])) (fun t k => XS.iconst X0.here hx rfl (hb hby d1_10) k) ?_
      refine Goes.st (U' := s₁.setTop (mkF m 15 #[.val (.int p1)] [(.int (1 : Int32))])) (fun t k => XS.goto X0.here hx rfl (pc0 := 11) (pc' := 15) rfl (hb hby d1_11) (by decide) (by decide) k) ?_
      refine Goes.retZ X0 hx (BodyLoose.notSynchronized Bd) Bd.returns (hb hby d1_15) rfl (by decide) (by decide) ?_
      show Q1 Z p1 h0 n0 _ s₁.heap _
      rw [e0]
      exact ⟨(congrArg some (congrArg _ (by unfold fn1; rw [if_neg hc2]; rw [if_neg hc7]))), N0, rfl⟩
theorem pd_0 : parseMethodDescriptor "(B)Z" = some ⟨[.byte], some .boolean⟩ := by decide +kernel
theorem pn_1 : plainName "com/example/dequeue/dequeue/store/MessageCodecReadablePinLaw" = true := by first | (simp [plainName, overriddenIn]; done) | decide +kernel
theorem ef_rm0 (m : MethodId) (p1 : Int32) : entryFrame m #[(.int p1)] maxLocals = mkF m 0 #[.val (.int p1), .unset, .unset, .unset, .unset, .unset] [] := by first | (simp [entryFrame, mkF, argsToLocals, Value.category, maxLocals]; done) | rfl
def fn0 (p1 : Int32) : Int32 := (if (p1.toInt8.toInt32) = (1 : Int32) then (if (fn1 (p1.toInt8.toInt32)) = (1 : Int32) then (if (fn1 (3 : Int32)) = (0 : Int32) then (0 : Int32) else (if (fn1 (1 : Int32)) = (0 : Int32) then (0 : Int32) else (1 : Int32))) else (0 : Int32)) else (if (p1.toInt8.toInt32) = (2 : Int32) then (if (fn1 (p1.toInt8.toInt32)) = (1 : Int32) then (if (fn1 (3 : Int32)) = (0 : Int32) then (0 : Int32) else (if (fn1 (1 : Int32)) = (0 : Int32) then (0 : Int32) else (1 : Int32))) else (0 : Int32)) else (if (p1.toInt8.toInt32) = (3 : Int32) then (if (fn1 (p1.toInt8.toInt32)) = (1 : Int32) then (if (fn1 (3 : Int32)) = (0 : Int32) then (0 : Int32) else (if (fn1 (1 : Int32)) = (0 : Int32) then (0 : Int32) else (1 : Int32))) else (0 : Int32)) else (if (fn1 (p1.toInt8.toInt32)) = (0 : Int32) then (if (fn1 (3 : Int32)) = (0 : Int32) then (0 : Int32) else (if (fn1 (1 : Int32)) = (0 : Int32) then (0 : Int32) else (1 : Int32))) else (0 : Int32)))))
def Q0 (Z : State) (p1 : Int32) (h0 : Heap) (n0 : Nat) (v : Option Value) (h : Heap) (L : List Loc) : Prop := v = some (.int (fn0 p1)) ∧ Fr n0 L ∧ h = h0
set_option maxRecDepth 65536 in
set_option maxHeartbeats 40000000 in
theorem rm0 (l : Launch) (Z : State) (a0 : Array Value) (hw : ∀ d ∈ tables_1, d.before a0 Z = true) (ws : List Jvm.Cond) (p1 : Int32) (h0 : Heap) (n0 : Nat) (Z0 : n0 ≤ h0.size) :
    MetFree l x (head1 (Jvm.Cond.code x code maxLocals ret :: ws) room_1) (fun a U => a = #[(.int p1)] ∧ Z.Warmed39 U.vm ∧ U.heap = h0) (fun _ _ _ _ _ => True) (fun _ U o U' => ∃ v L, o = .returned v ∧ Q0 Z p1 h0 n0 v U'.heap L ∧ FrameEnd U o U' L room_1.cells room_1.slots) := by
  refine MetFree.of_bodySF (plainFor_of_name pn_1) hisR ?_
  intro p e s m args below meth c s₁ Bd hml0 hP hK
  obtain ⟨rfl, hZ, hh⟩ := hP
  have hx := Bd.exec
  have hby := Bd.bytes
  have hml : c.maxLocals = 6 := hml0
  have hown : s.vm.findClass "com/example/dequeue/dequeue/store/MessageCodecReadablePinLaw" = some m.cls := findClass_of_methodNamed Bd.named
  have hnm := (name_of_methodNamed Bd.named Bd.method).1
  have X0 : Stand p l e room_1 s m #[(.int p1)] below meth c s₁ [] 0 0 := Stand.of_body Bd
  have e0 : s₁.heap = h0 := by rw [← hh, Bd.state]; rfl
  have N0 := Fr.nil n0
  show Goes p e s below (fun v h L => Q0 Z p1 h0 n0 v h L) room_1.cells room_1.slots (s₁.setTop (entryFrame m #[(.int p1)] maxLocals))
  refine Goes.st (U' := s₁.setTop (mkF m 0 #[.val (.int p1), .unset, .unset, .unset, .unset, .unset] [])) (fun t k => castTop (ef_rm0 m p1) k) ?_
  refine Goes.st (U' := s₁.setTop (mkF m 1 #[.val (.int p1), .unset, .unset, .unset, .unset, .unset] [(.int p1)])) (fun t k => XS.iloadN X0.here hx rfl (hb hby at_0) rfl k) ?_
  refine Goes.st (U' := s₁.setTop (mkF m 2 #[.val (.int p1), .unset, .unset, .unset, .unset, .unset] [(.int (p1.toInt8.toInt32))])) (fun t k => XS.i2b X0.here hx rfl (hb hby at_1) rfl k) ?_
  refine Goes.st (U' := s₁.setTop (mkF m 3 #[.val (.int p1), .val (.int (p1.toInt8.toInt32)), .unset, .unset, .unset, .unset] [])) (fun t k => XS.istoreN X0.here hx rfl (hb hby at_2) rfl (l' := #[.val (.int p1), .val (.int (p1.toInt8.toInt32)), .unset, .unset, .unset, .unset]) rfl k) ?_
  refine Goes.st (U' := s₁.setTop (mkF m 4 #[.val (.int p1), .val (.int (p1.toInt8.toInt32)), .unset, .unset, .unset, .unset] [(.int (p1.toInt8.toInt32))])) (fun t k => XS.iloadN X0.here hx rfl (hb hby at_3) rfl k) ?_
  refine Goes.st (U' := s₁.setTop (mkF m 5 #[.val (.int p1), .val (.int (p1.toInt8.toInt32)), .unset, .unset, .unset, .unset] [(.int (1 : Int32)), (.int (p1.toInt8.toInt32))])) (fun t k => XS.iconst X0.here hx rfl (hb hby at_4) k) ?_
  rcases Decidable.em ((p1.toInt8.toInt32) = (1 : Int32)) with hc5 | hc5
  · refine Goes.st (U' := s₁.setTop (mkF m 18 #[.val (.int p1), .val (.int (p1.toInt8.toInt32)), .unset, .unset, .unset, .unset] [])) (fun t k => XS.icmpYes X0.here hx rfl (pc0 := 5) (pc' := 18) rfl (hb hby at_5) rfl (teq hc5).1 (by decide) (by decide) k) ?_
    refine Goes.st (U' := s₁.setTop (mkF m 19 #[.val (.int p1), .val (.int (p1.toInt8.toInt32)), .unset, .unset, .unset, .unset] [(.int (1 : Int32))])) (fun t k => XS.iconst X0.here hx rfl (hb hby at_18) k) ?_
    refine Goes.st (U' := s₁.setTop (mkF m 23 #[.val (.int p1), .val (.int (p1.toInt8.toInt32)), .unset, .unset, .unset, .unset] [(.int (1 : Int32))])) (fun t k => XS.goto X0.here hx rfl (pc0 := 19) (pc' := 23) rfl (hb hby at_19) (by decide) (by decide) k) ?_
    refine Goes.st (U' := s₁.setTop (mkF m 24 #[.val (.int p1), .val (.int (p1.toInt8.toInt32)), .val (.int (1 : Int32)), .unset, .unset, .unset] [])) (fun t k => XS.istoreN X0.here hx rfl (hb hby at_23) rfl (l' := #[.val (.int p1), .val (.int (p1.toInt8.toInt32)), .val (.int (1 : Int32)), .unset, .unset, .unset]) rfl k) ?_
    refine Goes.st (U' := s₁.setTop (mkF m 25 #[.val (.int p1), .val (.int (p1.toInt8.toInt32)), .val (.int (1 : Int32)), .unset, .unset, .unset] [(.int (p1.toInt8.toInt32))])) (fun t k => XS.iloadN X0.here hx rfl (hb hby at_24) rfl k) ?_
    obtain ⟨_, _, ⟨T1, L1, k1, n1⟩, -, X1, ⟨Lc1, hQ1, l1, y1, z1⟩, st1⟩ := Jvm.LawKit.callS X0 hx (y := (⟨"com/example/dequeue/dequeue/store/MessageCodec", "readable", "(B)Z"⟩ : MethodName)) hown (mvT hZ (hw _ (List.mem_of_getElem? (i := 0) rfl))) (mvT hZ (hw _ (List.mem_of_getElem? (i := 1) rfl))) (mvT hZ (hw _ (List.mem_of_getElem? (i := 2) rfl))) (mvT hZ (hw _ (List.mem_of_getElem? (i := 3) rfl))) (by decide) (backOf (W := 0) (rm1 l Z a0 hw [] (p1.toInt8.toInt32) h0 n0 Z0) hZ (hw _ (List.mem_of_getElem? (i := 3) rfl)) (hw _ (List.mem_of_getElem? (i := 2) rfl)) (by decide) (by decide)) (g := (mkF m 25 #[.val (.int p1), .val (.int (p1.toInt8.toInt32)), .val (.int (1 : Int32)), .unset, .unset, .unset] [(.int (p1.toInt8.toInt32))])) rfl (by rw [hml]; rfl) (argsL := [(.int (p1.toInt8.toInt32))]) (rest := []) (lenOf pd_0 rfl) rfl (by show 2 * 0 + _ ≤ _; exact Nat.le_of_eq rfl) (hb hby at_25) (fun _ _ => ⟨rfl, e0, (by decide : 0 + 0 ≤ _), (by decide : 0 + 0 ≤ _)⟩)
    dsimp only [Pt.U, Pt.locs, Pt.cells, Pt.slots] at X1 l1 y1 z1 st1 hQ1
    subst l1 y1 z1
    obtain ⟨rfl, N1q, e1⟩ := hQ1
    have N1 := Fr.app N0 N1q
    refine Goes.st (U' := T1.setTop (mkF m 28 #[.val (.int p1), .val (.int (p1.toInt8.toInt32)), .val (.int (1 : Int32)), .unset, .unset, .unset] [(.int (fn1 (p1.toInt8.toInt32)))])) st1 ?_
    refine Goes.st (U' := T1.setTop (mkF m 29 #[.val (.int p1), .val (.int (p1.toInt8.toInt32)), .val (.int (1 : Int32)), .val (.int (fn1 (p1.toInt8.toInt32))), .unset, .unset] [])) (fun t k => XS.istoreN X1.here hx rfl (hb hby at_28) rfl (l' := #[.val (.int p1), .val (.int (p1.toInt8.toInt32)), .val (.int (1 : Int32)), .val (.int (fn1 (p1.toInt8.toInt32))), .unset, .unset]) rfl k) ?_
    refine Goes.st (U' := T1.setTop (mkF m 30 #[.val (.int p1), .val (.int (p1.toInt8.toInt32)), .val (.int (1 : Int32)), .val (.int (fn1 (p1.toInt8.toInt32))), .unset, .unset] [(.int (3 : Int32))])) (fun t k => XS.iconst X1.here hx rfl (hb hby at_29) k) ?_
    obtain ⟨_, _, ⟨T2, L2, k2, n2⟩, -, X2, ⟨Lc2, hQ2, l2, y2, z2⟩, st2⟩ := Jvm.LawKit.callS X1 hx (y := (⟨"com/example/dequeue/dequeue/store/MessageCodec", "readable", "(B)Z"⟩ : MethodName)) hown (mvT hZ (hw _ (List.mem_of_getElem? (i := 0) rfl))) (mvT hZ (hw _ (List.mem_of_getElem? (i := 1) rfl))) (mvT hZ (hw _ (List.mem_of_getElem? (i := 2) rfl))) (mvT hZ (hw _ (List.mem_of_getElem? (i := 3) rfl))) (by decide) (backOf (W := 0) (rm1 l Z a0 hw [] (3 : Int32) h0 n0 Z0) hZ (hw _ (List.mem_of_getElem? (i := 3) rfl)) (hw _ (List.mem_of_getElem? (i := 2) rfl)) (by decide) (by decide)) (g := (mkF m 30 #[.val (.int p1), .val (.int (p1.toInt8.toInt32)), .val (.int (1 : Int32)), .val (.int (fn1 (p1.toInt8.toInt32))), .unset, .unset] [(.int (3 : Int32))])) rfl (by rw [hml]; rfl) (argsL := [(.int (3 : Int32))]) (rest := []) (lenOf pd_0 rfl) rfl (by show 2 * 0 + _ ≤ _; exact Nat.le_of_eq rfl) (hb hby at_30) (fun _ _ => ⟨rfl, e1, (by decide : 0 + 0 ≤ _), (by decide : 0 + 0 ≤ _)⟩)
    dsimp only [Pt.U, Pt.locs, Pt.cells, Pt.slots] at X2 l2 y2 z2 st2 hQ2
    subst l2 y2 z2
    obtain ⟨rfl, N2q, e2⟩ := hQ2
    have N2 := Fr.app N1 N2q
    refine Goes.st (U' := T2.setTop (mkF m 33 #[.val (.int p1), .val (.int (p1.toInt8.toInt32)), .val (.int (1 : Int32)), .val (.int (fn1 (p1.toInt8.toInt32))), .unset, .unset] [(.int (fn1 (3 : Int32)))])) st2 ?_
    refine Goes.st (U' := T2.setTop (mkF m 35 #[.val (.int p1), .val (.int (p1.toInt8.toInt32)), .val (.int (1 : Int32)), .val (.int (fn1 (p1.toInt8.toInt32))), .val (.int (fn1 (3 : Int32))), .unset] [])) (fun t k => XS.istore X2.here hx rfl (hb hby at_33) rfl (l' := #[.val (.int p1), .val (.int (p1.toInt8.toInt32)), .val (.int (1 : Int32)), .val (.int (fn1 (p1.toInt8.toInt32))), .val (.int (fn1 (3 : Int32))), .unset]) rfl k) ?_
    refine Goes.st (U' := T2.setTop (mkF m 36 #[.val (.int p1), .val (.int (p1.toInt8.toInt32)), .val (.int (1 : Int32)), .val (.int (fn1 (p1.toInt8.toInt32))), .val (.int (fn1 (3 : Int32))), .unset] [(.int (1 : Int32))])) (fun t k => XS.iconst X2.here hx rfl (hb hby at_35) k) ?_
    obtain ⟨_, _, ⟨T3, L3, k3, n3⟩, -, X3, ⟨Lc3, hQ3, l3, y3, z3⟩, st3⟩ := Jvm.LawKit.callS X2 hx (y := (⟨"com/example/dequeue/dequeue/store/MessageCodec", "readable", "(B)Z"⟩ : MethodName)) hown (mvT hZ (hw _ (List.mem_of_getElem? (i := 0) rfl))) (mvT hZ (hw _ (List.mem_of_getElem? (i := 1) rfl))) (mvT hZ (hw _ (List.mem_of_getElem? (i := 2) rfl))) (mvT hZ (hw _ (List.mem_of_getElem? (i := 3) rfl))) (by decide) (backOf (W := 0) (rm1 l Z a0 hw [] (1 : Int32) h0 n0 Z0) hZ (hw _ (List.mem_of_getElem? (i := 3) rfl)) (hw _ (List.mem_of_getElem? (i := 2) rfl)) (by decide) (by decide)) (g := (mkF m 36 #[.val (.int p1), .val (.int (p1.toInt8.toInt32)), .val (.int (1 : Int32)), .val (.int (fn1 (p1.toInt8.toInt32))), .val (.int (fn1 (3 : Int32))), .unset] [(.int (1 : Int32))])) rfl (by rw [hml]; rfl) (argsL := [(.int (1 : Int32))]) (rest := []) (lenOf pd_0 rfl) rfl (by show 2 * 0 + _ ≤ _; exact Nat.le_of_eq rfl) (hb hby at_36) (fun _ _ => ⟨rfl, e2, (by decide : 0 + 0 ≤ _), (by decide : 0 + 0 ≤ _)⟩)
    dsimp only [Pt.U, Pt.locs, Pt.cells, Pt.slots] at X3 l3 y3 z3 st3 hQ3
    subst l3 y3 z3
    obtain ⟨rfl, N3q, e3⟩ := hQ3
    have N3 := Fr.app N2 N3q
    refine Goes.st (U' := T3.setTop (mkF m 39 #[.val (.int p1), .val (.int (p1.toInt8.toInt32)), .val (.int (1 : Int32)), .val (.int (fn1 (p1.toInt8.toInt32))), .val (.int (fn1 (3 : Int32))), .unset] [(.int (fn1 (1 : Int32)))])) st3 ?_
    refine Goes.st (U' := T3.setTop (mkF m 41 #[.val (.int p1), .val (.int (p1.toInt8.toInt32)), .val (.int (1 : Int32)), .val (.int (fn1 (p1.toInt8.toInt32))), .val (.int (fn1 (3 : Int32))), .val (.int (fn1 (1 : Int32)))] [])) (fun t k => XS.istore X3.here hx rfl (hb hby at_39) rfl (l' := #[.val (.int p1), .val (.int (p1.toInt8.toInt32)), .val (.int (1 : Int32)), .val (.int (fn1 (p1.toInt8.toInt32))), .val (.int (fn1 (3 : Int32))), .val (.int (fn1 (1 : Int32)))]) rfl k) ?_
    refine Goes.st (U' := T3.setTop (mkF m 42 #[.val (.int p1), .val (.int (p1.toInt8.toInt32)), .val (.int (1 : Int32)), .val (.int (fn1 (p1.toInt8.toInt32))), .val (.int (fn1 (3 : Int32))), .val (.int (fn1 (1 : Int32)))] [(.int (fn1 (p1.toInt8.toInt32)))])) (fun t k => XS.iloadN X3.here hx rfl (hb hby at_41) rfl k) ?_
    refine Goes.st (U' := T3.setTop (mkF m 43 #[.val (.int p1), .val (.int (p1.toInt8.toInt32)), .val (.int (1 : Int32)), .val (.int (fn1 (p1.toInt8.toInt32))), .val (.int (fn1 (3 : Int32))), .val (.int (fn1 (1 : Int32)))] [(.int (1 : Int32)), (.int (fn1 (p1.toInt8.toInt32)))])) (fun t k => XS.iloadN X3.here hx rfl (hb hby at_42) rfl k) ?_
    rcases Decidable.em ((fn1 (p1.toInt8.toInt32)) = (1 : Int32)) with hc43 | hc43
    · refine Goes.st (U' := T3.setTop (mkF m 46 #[.val (.int p1), .val (.int (p1.toInt8.toInt32)), .val (.int (1 : Int32)), .val (.int (fn1 (p1.toInt8.toInt32))), .val (.int (fn1 (3 : Int32))), .val (.int (fn1 (1 : Int32)))] [])) (fun t k => XS.icmpNo X3.here hx rfl (hb hby at_43) rfl (teq hc43).2 k) ?_
      refine Goes.st (U' := T3.setTop (mkF m 48 #[.val (.int p1), .val (.int (p1.toInt8.toInt32)), .val (.int (1 : Int32)), .val (.int (fn1 (p1.toInt8.toInt32))), .val (.int (fn1 (3 : Int32))), .val (.int (fn1 (1 : Int32)))] [(.int (fn1 (3 : Int32)))])) (fun t k => XS.iload X3.here hx rfl (hb hby at_46) rfl k) ?_
      rcases Decidable.em ((fn1 (3 : Int32)) = (0 : Int32)) with hc48 | hc48
      · refine Goes.st (U' := T3.setTop (mkF m 60 #[.val (.int p1), .val (.int (p1.toInt8.toInt32)), .val (.int (1 : Int32)), .val (.int (fn1 (p1.toInt8.toInt32))), .val (.int (fn1 (3 : Int32))), .val (.int (fn1 (1 : Int32)))] [])) (fun t k => XS.ifYes X3.here hx rfl (pc0 := 48) (pc' := 60) rfl (hb hby at_48) rfl ((if0 _ _).trans (teq hc48).1) (by decide) (by decide) k) ?_
        refine Goes.st (U' := T3.setTop (mkF m 61 #[.val (.int p1), .val (.int (p1.toInt8.toInt32)), .val (.int (1 : Int32)), .val (.int (fn1 (p1.toInt8.toInt32))), .val (.int (fn1 (3 : Int32))), .val (.int (fn1 (1 : Int32)))] [(.int (0 : Int32))])) (fun t k => XS.iconst X3.here hx rfl (hb hby at_60) k) ?_
        refine Goes.retZ X3 hx (BodyLoose.notSynchronized Bd) Bd.returns (hb hby at_61) rfl (by decide) (by decide) ?_
        show Q0 Z p1 h0 n0 _ T3.heap _
        rw [e3]
        exact ⟨(congrArg some (congrArg _ (by unfold fn0; rw [if_pos hc5]; rw [if_pos hc43]; rw [if_pos hc48]))), N3, rfl⟩
      · refine Goes.st (U' := T3.setTop (mkF m 51 #[.val (.int p1), .val (.int (p1.toInt8.toInt32)), .val (.int (1 : Int32)), .val (.int (fn1 (p1.toInt8.toInt32))), .val (.int (fn1 (3 : Int32))), .val (.int (fn1 (1 : Int32)))] [])) (fun t k => XS.ifNo X3.here hx rfl (hb hby at_48) rfl ((if0 _ _).trans (feq hc48).1) k) ?_
        refine Goes.st (U' := T3.setTop (mkF m 53 #[.val (.int p1), .val (.int (p1.toInt8.toInt32)), .val (.int (1 : Int32)), .val (.int (fn1 (p1.toInt8.toInt32))), .val (.int (fn1 (3 : Int32))), .val (.int (fn1 (1 : Int32)))] [(.int (fn1 (1 : Int32)))])) (fun t k => XS.iload X3.here hx rfl (hb hby at_51) rfl k) ?_
        rcases Decidable.em ((fn1 (1 : Int32)) = (0 : Int32)) with hc53 | hc53
        · refine Goes.st (U' := T3.setTop (mkF m 60 #[.val (.int p1), .val (.int (p1.toInt8.toInt32)), .val (.int (1 : Int32)), .val (.int (fn1 (p1.toInt8.toInt32))), .val (.int (fn1 (3 : Int32))), .val (.int (fn1 (1 : Int32)))] [])) (fun t k => XS.ifYes X3.here hx rfl (pc0 := 53) (pc' := 60) rfl (hb hby at_53) rfl ((if0 _ _).trans (teq hc53).1) (by decide) (by decide) k) ?_
          refine Goes.st (U' := T3.setTop (mkF m 61 #[.val (.int p1), .val (.int (p1.toInt8.toInt32)), .val (.int (1 : Int32)), .val (.int (fn1 (p1.toInt8.toInt32))), .val (.int (fn1 (3 : Int32))), .val (.int (fn1 (1 : Int32)))] [(.int (0 : Int32))])) (fun t k => XS.iconst X3.here hx rfl (hb hby at_60) k) ?_
          refine Goes.retZ X3 hx (BodyLoose.notSynchronized Bd) Bd.returns (hb hby at_61) rfl (by decide) (by decide) ?_
          show Q0 Z p1 h0 n0 _ T3.heap _
          rw [e3]
          exact ⟨(congrArg some (congrArg _ (by unfold fn0; rw [if_pos hc5]; rw [if_pos hc43]; rw [if_neg hc48]; rw [if_pos hc53]))), N3, rfl⟩
        · refine Goes.st (U' := T3.setTop (mkF m 56 #[.val (.int p1), .val (.int (p1.toInt8.toInt32)), .val (.int (1 : Int32)), .val (.int (fn1 (p1.toInt8.toInt32))), .val (.int (fn1 (3 : Int32))), .val (.int (fn1 (1 : Int32)))] [])) (fun t k => XS.ifNo X3.here hx rfl (hb hby at_53) rfl ((if0 _ _).trans (feq hc53).1) k) ?_
          refine Goes.st (U' := T3.setTop (mkF m 57 #[.val (.int p1), .val (.int (p1.toInt8.toInt32)), .val (.int (1 : Int32)), .val (.int (fn1 (p1.toInt8.toInt32))), .val (.int (fn1 (3 : Int32))), .val (.int (fn1 (1 : Int32)))] [(.int (1 : Int32))])) (fun t k => XS.iconst X3.here hx rfl (hb hby at_56) k) ?_
          refine Goes.st (U' := T3.setTop (mkF m 61 #[.val (.int p1), .val (.int (p1.toInt8.toInt32)), .val (.int (1 : Int32)), .val (.int (fn1 (p1.toInt8.toInt32))), .val (.int (fn1 (3 : Int32))), .val (.int (fn1 (1 : Int32)))] [(.int (1 : Int32))])) (fun t k => XS.goto X3.here hx rfl (pc0 := 57) (pc' := 61) rfl (hb hby at_57) (by decide) (by decide) k) ?_
          refine Goes.retZ X3 hx (BodyLoose.notSynchronized Bd) Bd.returns (hb hby at_61) rfl (by decide) (by decide) ?_
          show Q0 Z p1 h0 n0 _ T3.heap _
          rw [e3]
          exact ⟨(congrArg some (congrArg _ (by unfold fn0; rw [if_pos hc5]; rw [if_pos hc43]; rw [if_neg hc48]; rw [if_neg hc53]))), N3, rfl⟩
    · refine Goes.st (U' := T3.setTop (mkF m 60 #[.val (.int p1), .val (.int (p1.toInt8.toInt32)), .val (.int (1 : Int32)), .val (.int (fn1 (p1.toInt8.toInt32))), .val (.int (fn1 (3 : Int32))), .val (.int (fn1 (1 : Int32)))] [])) (fun t k => XS.icmpYes X3.here hx rfl (pc0 := 43) (pc' := 60) rfl (hb hby at_43) rfl (feq hc43).2 (by decide) (by decide) k) ?_
      refine Goes.st (U' := T3.setTop (mkF m 61 #[.val (.int p1), .val (.int (p1.toInt8.toInt32)), .val (.int (1 : Int32)), .val (.int (fn1 (p1.toInt8.toInt32))), .val (.int (fn1 (3 : Int32))), .val (.int (fn1 (1 : Int32)))] [(.int (0 : Int32))])) (fun t k => XS.iconst X3.here hx rfl (hb hby at_60) k) ?_
      refine Goes.retZ X3 hx (BodyLoose.notSynchronized Bd) Bd.returns (hb hby at_61) rfl (by decide) (by decide) ?_
      show Q0 Z p1 h0 n0 _ T3.heap _
      rw [e3]
      exact ⟨(congrArg some (congrArg _ (by unfold fn0; rw [if_pos hc5]; rw [if_neg hc43]))), N3, rfl⟩
  · refine Goes.st (U' := s₁.setTop (mkF m 8 #[.val (.int p1), .val (.int (p1.toInt8.toInt32)), .unset, .unset, .unset, .unset] [])) (fun t k => XS.icmpNo X0.here hx rfl (hb hby at_5) rfl (feq hc5).1 k) ?_
    refine Goes.st (U' := s₁.setTop (mkF m 9 #[.val (.int p1), .val (.int (p1.toInt8.toInt32)), .unset, .unset, .unset, .unset] [(.int (p1.toInt8.toInt32))])) (fun t k => XS.iloadN X0.here hx rfl (hb hby at_8) rfl k) ?_
    refine Goes.st (U' := s₁.setTop (mkF m 10 #[.val (.int p1), .val (.int (p1.toInt8.toInt32)), .unset, .unset, .unset, .unset] [(.int (2 : Int32)), (.int (p1.toInt8.toInt32))])) (fun t k => XS.iconst X0.here hx rfl (hb hby at_9) k) ?_
    rcases Decidable.em ((p1.toInt8.toInt32) = (2 : Int32)) with hc10 | hc10
    · refine Goes.st (U' := s₁.setTop (mkF m 18 #[.val (.int p1), .val (.int (p1.toInt8.toInt32)), .unset, .unset, .unset, .unset] [])) (fun t k => XS.icmpYes X0.here hx rfl (pc0 := 10) (pc' := 18) rfl (hb hby at_10) rfl (teq hc10).1 (by decide) (by decide) k) ?_
      refine Goes.st (U' := s₁.setTop (mkF m 19 #[.val (.int p1), .val (.int (p1.toInt8.toInt32)), .unset, .unset, .unset, .unset] [(.int (1 : Int32))])) (fun t k => XS.iconst X0.here hx rfl (hb hby at_18) k) ?_
      refine Goes.st (U' := s₁.setTop (mkF m 23 #[.val (.int p1), .val (.int (p1.toInt8.toInt32)), .unset, .unset, .unset, .unset] [(.int (1 : Int32))])) (fun t k => XS.goto X0.here hx rfl (pc0 := 19) (pc' := 23) rfl (hb hby at_19) (by decide) (by decide) k) ?_
      refine Goes.st (U' := s₁.setTop (mkF m 24 #[.val (.int p1), .val (.int (p1.toInt8.toInt32)), .val (.int (1 : Int32)), .unset, .unset, .unset] [])) (fun t k => XS.istoreN X0.here hx rfl (hb hby at_23) rfl (l' := #[.val (.int p1), .val (.int (p1.toInt8.toInt32)), .val (.int (1 : Int32)), .unset, .unset, .unset]) rfl k) ?_
      refine Goes.st (U' := s₁.setTop (mkF m 25 #[.val (.int p1), .val (.int (p1.toInt8.toInt32)), .val (.int (1 : Int32)), .unset, .unset, .unset] [(.int (p1.toInt8.toInt32))])) (fun t k => XS.iloadN X0.here hx rfl (hb hby at_24) rfl k) ?_
      obtain ⟨_, _, ⟨T4, L4, k4, n4⟩, -, X4, ⟨Lc4, hQ4, l4, y4, z4⟩, st4⟩ := Jvm.LawKit.callS X0 hx (y := (⟨"com/example/dequeue/dequeue/store/MessageCodec", "readable", "(B)Z"⟩ : MethodName)) hown (mvT hZ (hw _ (List.mem_of_getElem? (i := 0) rfl))) (mvT hZ (hw _ (List.mem_of_getElem? (i := 1) rfl))) (mvT hZ (hw _ (List.mem_of_getElem? (i := 2) rfl))) (mvT hZ (hw _ (List.mem_of_getElem? (i := 3) rfl))) (by decide) (backOf (W := 0) (rm1 l Z a0 hw [] (p1.toInt8.toInt32) h0 n0 Z0) hZ (hw _ (List.mem_of_getElem? (i := 3) rfl)) (hw _ (List.mem_of_getElem? (i := 2) rfl)) (by decide) (by decide)) (g := (mkF m 25 #[.val (.int p1), .val (.int (p1.toInt8.toInt32)), .val (.int (1 : Int32)), .unset, .unset, .unset] [(.int (p1.toInt8.toInt32))])) rfl (by rw [hml]; rfl) (argsL := [(.int (p1.toInt8.toInt32))]) (rest := []) (lenOf pd_0 rfl) rfl (by show 2 * 0 + _ ≤ _; exact Nat.le_of_eq rfl) (hb hby at_25) (fun _ _ => ⟨rfl, e0, (by decide : 0 + 0 ≤ _), (by decide : 0 + 0 ≤ _)⟩)
      dsimp only [Pt.U, Pt.locs, Pt.cells, Pt.slots] at X4 l4 y4 z4 st4 hQ4
      subst l4 y4 z4
      obtain ⟨rfl, N4q, e4⟩ := hQ4
      have N4 := Fr.app N0 N4q
      refine Goes.st (U' := T4.setTop (mkF m 28 #[.val (.int p1), .val (.int (p1.toInt8.toInt32)), .val (.int (1 : Int32)), .unset, .unset, .unset] [(.int (fn1 (p1.toInt8.toInt32)))])) st4 ?_
      refine Goes.st (U' := T4.setTop (mkF m 29 #[.val (.int p1), .val (.int (p1.toInt8.toInt32)), .val (.int (1 : Int32)), .val (.int (fn1 (p1.toInt8.toInt32))), .unset, .unset] [])) (fun t k => XS.istoreN X4.here hx rfl (hb hby at_28) rfl (l' := #[.val (.int p1), .val (.int (p1.toInt8.toInt32)), .val (.int (1 : Int32)), .val (.int (fn1 (p1.toInt8.toInt32))), .unset, .unset]) rfl k) ?_
      refine Goes.st (U' := T4.setTop (mkF m 30 #[.val (.int p1), .val (.int (p1.toInt8.toInt32)), .val (.int (1 : Int32)), .val (.int (fn1 (p1.toInt8.toInt32))), .unset, .unset] [(.int (3 : Int32))])) (fun t k => XS.iconst X4.here hx rfl (hb hby at_29) k) ?_
      obtain ⟨_, _, ⟨T5, L5, k5, n5⟩, -, X5, ⟨Lc5, hQ5, l5, y5, z5⟩, st5⟩ := Jvm.LawKit.callS X4 hx (y := (⟨"com/example/dequeue/dequeue/store/MessageCodec", "readable", "(B)Z"⟩ : MethodName)) hown (mvT hZ (hw _ (List.mem_of_getElem? (i := 0) rfl))) (mvT hZ (hw _ (List.mem_of_getElem? (i := 1) rfl))) (mvT hZ (hw _ (List.mem_of_getElem? (i := 2) rfl))) (mvT hZ (hw _ (List.mem_of_getElem? (i := 3) rfl))) (by decide) (backOf (W := 0) (rm1 l Z a0 hw [] (3 : Int32) h0 n0 Z0) hZ (hw _ (List.mem_of_getElem? (i := 3) rfl)) (hw _ (List.mem_of_getElem? (i := 2) rfl)) (by decide) (by decide)) (g := (mkF m 30 #[.val (.int p1), .val (.int (p1.toInt8.toInt32)), .val (.int (1 : Int32)), .val (.int (fn1 (p1.toInt8.toInt32))), .unset, .unset] [(.int (3 : Int32))])) rfl (by rw [hml]; rfl) (argsL := [(.int (3 : Int32))]) (rest := []) (lenOf pd_0 rfl) rfl (by show 2 * 0 + _ ≤ _; exact Nat.le_of_eq rfl) (hb hby at_30) (fun _ _ => ⟨rfl, e4, (by decide : 0 + 0 ≤ _), (by decide : 0 + 0 ≤ _)⟩)
      dsimp only [Pt.U, Pt.locs, Pt.cells, Pt.slots] at X5 l5 y5 z5 st5 hQ5
      subst l5 y5 z5
      obtain ⟨rfl, N5q, e5⟩ := hQ5
      have N5 := Fr.app N4 N5q
      refine Goes.st (U' := T5.setTop (mkF m 33 #[.val (.int p1), .val (.int (p1.toInt8.toInt32)), .val (.int (1 : Int32)), .val (.int (fn1 (p1.toInt8.toInt32))), .unset, .unset] [(.int (fn1 (3 : Int32)))])) st5 ?_
      refine Goes.st (U' := T5.setTop (mkF m 35 #[.val (.int p1), .val (.int (p1.toInt8.toInt32)), .val (.int (1 : Int32)), .val (.int (fn1 (p1.toInt8.toInt32))), .val (.int (fn1 (3 : Int32))), .unset] [])) (fun t k => XS.istore X5.here hx rfl (hb hby at_33) rfl (l' := #[.val (.int p1), .val (.int (p1.toInt8.toInt32)), .val (.int (1 : Int32)), .val (.int (fn1 (p1.toInt8.toInt32))), .val (.int (fn1 (3 : Int32))), .unset]) rfl k) ?_
      refine Goes.st (U' := T5.setTop (mkF m 36 #[.val (.int p1), .val (.int (p1.toInt8.toInt32)), .val (.int (1 : Int32)), .val (.int (fn1 (p1.toInt8.toInt32))), .val (.int (fn1 (3 : Int32))), .unset] [(.int (1 : Int32))])) (fun t k => XS.iconst X5.here hx rfl (hb hby at_35) k) ?_
      obtain ⟨_, _, ⟨T6, L6, k6, n6⟩, -, X6, ⟨Lc6, hQ6, l6, y6, z6⟩, st6⟩ := Jvm.LawKit.callS X5 hx (y := (⟨"com/example/dequeue/dequeue/store/MessageCodec", "readable", "(B)Z"⟩ : MethodName)) hown (mvT hZ (hw _ (List.mem_of_getElem? (i := 0) rfl))) (mvT hZ (hw _ (List.mem_of_getElem? (i := 1) rfl))) (mvT hZ (hw _ (List.mem_of_getElem? (i := 2) rfl))) (mvT hZ (hw _ (List.mem_of_getElem? (i := 3) rfl))) (by decide) (backOf (W := 0) (rm1 l Z a0 hw [] (1 : Int32) h0 n0 Z0) hZ (hw _ (List.mem_of_getElem? (i := 3) rfl)) (hw _ (List.mem_of_getElem? (i := 2) rfl)) (by decide) (by decide)) (g := (mkF m 36 #[.val (.int p1), .val (.int (p1.toInt8.toInt32)), .val (.int (1 : Int32)), .val (.int (fn1 (p1.toInt8.toInt32))), .val (.int (fn1 (3 : Int32))), .unset] [(.int (1 : Int32))])) rfl (by rw [hml]; rfl) (argsL := [(.int (1 : Int32))]) (rest := []) (lenOf pd_0 rfl) rfl (by show 2 * 0 + _ ≤ _; exact Nat.le_of_eq rfl) (hb hby at_36) (fun _ _ => ⟨rfl, e5, (by decide : 0 + 0 ≤ _), (by decide : 0 + 0 ≤ _)⟩)
      dsimp only [Pt.U, Pt.locs, Pt.cells, Pt.slots] at X6 l6 y6 z6 st6 hQ6
      subst l6 y6 z6
      obtain ⟨rfl, N6q, e6⟩ := hQ6
      have N6 := Fr.app N5 N6q
      refine Goes.st (U' := T6.setTop (mkF m 39 #[.val (.int p1), .val (.int (p1.toInt8.toInt32)), .val (.int (1 : Int32)), .val (.int (fn1 (p1.toInt8.toInt32))), .val (.int (fn1 (3 : Int32))), .unset] [(.int (fn1 (1 : Int32)))])) st6 ?_
      refine Goes.st (U' := T6.setTop (mkF m 41 #[.val (.int p1), .val (.int (p1.toInt8.toInt32)), .val (.int (1 : Int32)), .val (.int (fn1 (p1.toInt8.toInt32))), .val (.int (fn1 (3 : Int32))), .val (.int (fn1 (1 : Int32)))] [])) (fun t k => XS.istore X6.here hx rfl (hb hby at_39) rfl (l' := #[.val (.int p1), .val (.int (p1.toInt8.toInt32)), .val (.int (1 : Int32)), .val (.int (fn1 (p1.toInt8.toInt32))), .val (.int (fn1 (3 : Int32))), .val (.int (fn1 (1 : Int32)))]) rfl k) ?_
      refine Goes.st (U' := T6.setTop (mkF m 42 #[.val (.int p1), .val (.int (p1.toInt8.toInt32)), .val (.int (1 : Int32)), .val (.int (fn1 (p1.toInt8.toInt32))), .val (.int (fn1 (3 : Int32))), .val (.int (fn1 (1 : Int32)))] [(.int (fn1 (p1.toInt8.toInt32)))])) (fun t k => XS.iloadN X6.here hx rfl (hb hby at_41) rfl k) ?_
      refine Goes.st (U' := T6.setTop (mkF m 43 #[.val (.int p1), .val (.int (p1.toInt8.toInt32)), .val (.int (1 : Int32)), .val (.int (fn1 (p1.toInt8.toInt32))), .val (.int (fn1 (3 : Int32))), .val (.int (fn1 (1 : Int32)))] [(.int (1 : Int32)), (.int (fn1 (p1.toInt8.toInt32)))])) (fun t k => XS.iloadN X6.here hx rfl (hb hby at_42) rfl k) ?_
      rcases Decidable.em ((fn1 (p1.toInt8.toInt32)) = (1 : Int32)) with hc43 | hc43
      · refine Goes.st (U' := T6.setTop (mkF m 46 #[.val (.int p1), .val (.int (p1.toInt8.toInt32)), .val (.int (1 : Int32)), .val (.int (fn1 (p1.toInt8.toInt32))), .val (.int (fn1 (3 : Int32))), .val (.int (fn1 (1 : Int32)))] [])) (fun t k => XS.icmpNo X6.here hx rfl (hb hby at_43) rfl (teq hc43).2 k) ?_
        refine Goes.st (U' := T6.setTop (mkF m 48 #[.val (.int p1), .val (.int (p1.toInt8.toInt32)), .val (.int (1 : Int32)), .val (.int (fn1 (p1.toInt8.toInt32))), .val (.int (fn1 (3 : Int32))), .val (.int (fn1 (1 : Int32)))] [(.int (fn1 (3 : Int32)))])) (fun t k => XS.iload X6.here hx rfl (hb hby at_46) rfl k) ?_
        rcases Decidable.em ((fn1 (3 : Int32)) = (0 : Int32)) with hc48 | hc48
        · refine Goes.st (U' := T6.setTop (mkF m 60 #[.val (.int p1), .val (.int (p1.toInt8.toInt32)), .val (.int (1 : Int32)), .val (.int (fn1 (p1.toInt8.toInt32))), .val (.int (fn1 (3 : Int32))), .val (.int (fn1 (1 : Int32)))] [])) (fun t k => XS.ifYes X6.here hx rfl (pc0 := 48) (pc' := 60) rfl (hb hby at_48) rfl ((if0 _ _).trans (teq hc48).1) (by decide) (by decide) k) ?_
          refine Goes.st (U' := T6.setTop (mkF m 61 #[.val (.int p1), .val (.int (p1.toInt8.toInt32)), .val (.int (1 : Int32)), .val (.int (fn1 (p1.toInt8.toInt32))), .val (.int (fn1 (3 : Int32))), .val (.int (fn1 (1 : Int32)))] [(.int (0 : Int32))])) (fun t k => XS.iconst X6.here hx rfl (hb hby at_60) k) ?_
          refine Goes.retZ X6 hx (BodyLoose.notSynchronized Bd) Bd.returns (hb hby at_61) rfl (by decide) (by decide) ?_
          show Q0 Z p1 h0 n0 _ T6.heap _
          rw [e6]
          exact ⟨(congrArg some (congrArg _ (by unfold fn0; rw [if_neg hc5]; rw [if_pos hc10]; rw [if_pos hc43]; rw [if_pos hc48]))), N6, rfl⟩
        · refine Goes.st (U' := T6.setTop (mkF m 51 #[.val (.int p1), .val (.int (p1.toInt8.toInt32)), .val (.int (1 : Int32)), .val (.int (fn1 (p1.toInt8.toInt32))), .val (.int (fn1 (3 : Int32))), .val (.int (fn1 (1 : Int32)))] [])) (fun t k => XS.ifNo X6.here hx rfl (hb hby at_48) rfl ((if0 _ _).trans (feq hc48).1) k) ?_
          refine Goes.st (U' := T6.setTop (mkF m 53 #[.val (.int p1), .val (.int (p1.toInt8.toInt32)), .val (.int (1 : Int32)), .val (.int (fn1 (p1.toInt8.toInt32))), .val (.int (fn1 (3 : Int32))), .val (.int (fn1 (1 : Int32)))] [(.int (fn1 (1 : Int32)))])) (fun t k => XS.iload X6.here hx rfl (hb hby at_51) rfl k) ?_
          rcases Decidable.em ((fn1 (1 : Int32)) = (0 : Int32)) with hc53 | hc53
          · refine Goes.st (U' := T6.setTop (mkF m 60 #[.val (.int p1), .val (.int (p1.toInt8.toInt32)), .val (.int (1 : Int32)), .val (.int (fn1 (p1.toInt8.toInt32))), .val (.int (fn1 (3 : Int32))), .val (.int (fn1 (1 : Int32)))] [])) (fun t k => XS.ifYes X6.here hx rfl (pc0 := 53) (pc' := 60) rfl (hb hby at_53) rfl ((if0 _ _).trans (teq hc53).1) (by decide) (by decide) k) ?_
            refine Goes.st (U' := T6.setTop (mkF m 61 #[.val (.int p1), .val (.int (p1.toInt8.toInt32)), .val (.int (1 : Int32)), .val (.int (fn1 (p1.toInt8.toInt32))), .val (.int (fn1 (3 : Int32))), .val (.int (fn1 (1 : Int32)))] [(.int (0 : Int32))])) (fun t k => XS.iconst X6.here hx rfl (hb hby at_60) k) ?_
            refine Goes.retZ X6 hx (BodyLoose.notSynchronized Bd) Bd.returns (hb hby at_61) rfl (by decide) (by decide) ?_
            show Q0 Z p1 h0 n0 _ T6.heap _
            rw [e6]
            exact ⟨(congrArg some (congrArg _ (by unfold fn0; rw [if_neg hc5]; rw [if_pos hc10]; rw [if_pos hc43]; rw [if_neg hc48]; rw [if_pos hc53]))), N6, rfl⟩
          · refine Goes.st (U' := T6.setTop (mkF m 56 #[.val (.int p1), .val (.int (p1.toInt8.toInt32)), .val (.int (1 : Int32)), .val (.int (fn1 (p1.toInt8.toInt32))), .val (.int (fn1 (3 : Int32))), .val (.int (fn1 (1 : Int32)))] [])) (fun t k => XS.ifNo X6.here hx rfl (hb hby at_53) rfl ((if0 _ _).trans (feq hc53).1) k) ?_
            refine Goes.st (U' := T6.setTop (mkF m 57 #[.val (.int p1), .val (.int (p1.toInt8.toInt32)), .val (.int (1 : Int32)), .val (.int (fn1 (p1.toInt8.toInt32))), .val (.int (fn1 (3 : Int32))), .val (.int (fn1 (1 : Int32)))] [(.int (1 : Int32))])) (fun t k => XS.iconst X6.here hx rfl (hb hby at_56) k) ?_
            refine Goes.st (U' := T6.setTop (mkF m 61 #[.val (.int p1), .val (.int (p1.toInt8.toInt32)), .val (.int (1 : Int32)), .val (.int (fn1 (p1.toInt8.toInt32))), .val (.int (fn1 (3 : Int32))), .val (.int (fn1 (1 : Int32)))] [(.int (1 : Int32))])) (fun t k => XS.goto X6.here hx rfl (pc0 := 57) (pc' := 61) rfl (hb hby at_57) (by decide) (by decide) k) ?_
            refine Goes.retZ X6 hx (BodyLoose.notSynchronized Bd) Bd.returns (hb hby at_61) rfl (by decide) (by decide) ?_
            show Q0 Z p1 h0 n0 _ T6.heap _
            rw [e6]
            exact ⟨(congrArg some (congrArg _ (by unfold fn0; rw [if_neg hc5]; rw [if_pos hc10]; rw [if_pos hc43]; rw [if_neg hc48]; rw [if_neg hc53]))), N6, rfl⟩
      · refine Goes.st (U' := T6.setTop (mkF m 60 #[.val (.int p1), .val (.int (p1.toInt8.toInt32)), .val (.int (1 : Int32)), .val (.int (fn1 (p1.toInt8.toInt32))), .val (.int (fn1 (3 : Int32))), .val (.int (fn1 (1 : Int32)))] [])) (fun t k => XS.icmpYes X6.here hx rfl (pc0 := 43) (pc' := 60) rfl (hb hby at_43) rfl (feq hc43).2 (by decide) (by decide) k) ?_
        refine Goes.st (U' := T6.setTop (mkF m 61 #[.val (.int p1), .val (.int (p1.toInt8.toInt32)), .val (.int (1 : Int32)), .val (.int (fn1 (p1.toInt8.toInt32))), .val (.int (fn1 (3 : Int32))), .val (.int (fn1 (1 : Int32)))] [(.int (0 : Int32))])) (fun t k => XS.iconst X6.here hx rfl (hb hby at_60) k) ?_
        refine Goes.retZ X6 hx (BodyLoose.notSynchronized Bd) Bd.returns (hb hby at_61) rfl (by decide) (by decide) ?_
        show Q0 Z p1 h0 n0 _ T6.heap _
        rw [e6]
        exact ⟨(congrArg some (congrArg _ (by unfold fn0; rw [if_neg hc5]; rw [if_pos hc10]; rw [if_neg hc43]))), N6, rfl⟩
    · refine Goes.st (U' := s₁.setTop (mkF m 13 #[.val (.int p1), .val (.int (p1.toInt8.toInt32)), .unset, .unset, .unset, .unset] [])) (fun t k => XS.icmpNo X0.here hx rfl (hb hby at_10) rfl (feq hc10).1 k) ?_
      refine Goes.st (U' := s₁.setTop (mkF m 14 #[.val (.int p1), .val (.int (p1.toInt8.toInt32)), .unset, .unset, .unset, .unset] [(.int (p1.toInt8.toInt32))])) (fun t k => XS.iloadN X0.here hx rfl (hb hby at_13) rfl k) ?_
      refine Goes.st (U' := s₁.setTop (mkF m 15 #[.val (.int p1), .val (.int (p1.toInt8.toInt32)), .unset, .unset, .unset, .unset] [(.int (3 : Int32)), (.int (p1.toInt8.toInt32))])) (fun t k => XS.iconst X0.here hx rfl (hb hby at_14) k) ?_
      rcases Decidable.em ((p1.toInt8.toInt32) = (3 : Int32)) with hc15 | hc15
      · refine Goes.st (U' := s₁.setTop (mkF m 18 #[.val (.int p1), .val (.int (p1.toInt8.toInt32)), .unset, .unset, .unset, .unset] [])) (fun t k => XS.icmpNo X0.here hx rfl (hb hby at_15) rfl (teq hc15).2 k) ?_
        refine Goes.st (U' := s₁.setTop (mkF m 19 #[.val (.int p1), .val (.int (p1.toInt8.toInt32)), .unset, .unset, .unset, .unset] [(.int (1 : Int32))])) (fun t k => XS.iconst X0.here hx rfl (hb hby at_18) k) ?_
        refine Goes.st (U' := s₁.setTop (mkF m 23 #[.val (.int p1), .val (.int (p1.toInt8.toInt32)), .unset, .unset, .unset, .unset] [(.int (1 : Int32))])) (fun t k => XS.goto X0.here hx rfl (pc0 := 19) (pc' := 23) rfl (hb hby at_19) (by decide) (by decide) k) ?_
        refine Goes.st (U' := s₁.setTop (mkF m 24 #[.val (.int p1), .val (.int (p1.toInt8.toInt32)), .val (.int (1 : Int32)), .unset, .unset, .unset] [])) (fun t k => XS.istoreN X0.here hx rfl (hb hby at_23) rfl (l' := #[.val (.int p1), .val (.int (p1.toInt8.toInt32)), .val (.int (1 : Int32)), .unset, .unset, .unset]) rfl k) ?_
        refine Goes.st (U' := s₁.setTop (mkF m 25 #[.val (.int p1), .val (.int (p1.toInt8.toInt32)), .val (.int (1 : Int32)), .unset, .unset, .unset] [(.int (p1.toInt8.toInt32))])) (fun t k => XS.iloadN X0.here hx rfl (hb hby at_24) rfl k) ?_
        obtain ⟨_, _, ⟨T7, L7, k7, n7⟩, -, X7, ⟨Lc7, hQ7, l7, y7, z7⟩, st7⟩ := Jvm.LawKit.callS X0 hx (y := (⟨"com/example/dequeue/dequeue/store/MessageCodec", "readable", "(B)Z"⟩ : MethodName)) hown (mvT hZ (hw _ (List.mem_of_getElem? (i := 0) rfl))) (mvT hZ (hw _ (List.mem_of_getElem? (i := 1) rfl))) (mvT hZ (hw _ (List.mem_of_getElem? (i := 2) rfl))) (mvT hZ (hw _ (List.mem_of_getElem? (i := 3) rfl))) (by decide) (backOf (W := 0) (rm1 l Z a0 hw [] (p1.toInt8.toInt32) h0 n0 Z0) hZ (hw _ (List.mem_of_getElem? (i := 3) rfl)) (hw _ (List.mem_of_getElem? (i := 2) rfl)) (by decide) (by decide)) (g := (mkF m 25 #[.val (.int p1), .val (.int (p1.toInt8.toInt32)), .val (.int (1 : Int32)), .unset, .unset, .unset] [(.int (p1.toInt8.toInt32))])) rfl (by rw [hml]; rfl) (argsL := [(.int (p1.toInt8.toInt32))]) (rest := []) (lenOf pd_0 rfl) rfl (by show 2 * 0 + _ ≤ _; exact Nat.le_of_eq rfl) (hb hby at_25) (fun _ _ => ⟨rfl, e0, (by decide : 0 + 0 ≤ _), (by decide : 0 + 0 ≤ _)⟩)
        dsimp only [Pt.U, Pt.locs, Pt.cells, Pt.slots] at X7 l7 y7 z7 st7 hQ7
        subst l7 y7 z7
        obtain ⟨rfl, N7q, e7⟩ := hQ7
        have N7 := Fr.app N0 N7q
        refine Goes.st (U' := T7.setTop (mkF m 28 #[.val (.int p1), .val (.int (p1.toInt8.toInt32)), .val (.int (1 : Int32)), .unset, .unset, .unset] [(.int (fn1 (p1.toInt8.toInt32)))])) st7 ?_
        refine Goes.st (U' := T7.setTop (mkF m 29 #[.val (.int p1), .val (.int (p1.toInt8.toInt32)), .val (.int (1 : Int32)), .val (.int (fn1 (p1.toInt8.toInt32))), .unset, .unset] [])) (fun t k => XS.istoreN X7.here hx rfl (hb hby at_28) rfl (l' := #[.val (.int p1), .val (.int (p1.toInt8.toInt32)), .val (.int (1 : Int32)), .val (.int (fn1 (p1.toInt8.toInt32))), .unset, .unset]) rfl k) ?_
        refine Goes.st (U' := T7.setTop (mkF m 30 #[.val (.int p1), .val (.int (p1.toInt8.toInt32)), .val (.int (1 : Int32)), .val (.int (fn1 (p1.toInt8.toInt32))), .unset, .unset] [(.int (3 : Int32))])) (fun t k => XS.iconst X7.here hx rfl (hb hby at_29) k) ?_
        obtain ⟨_, _, ⟨T8, L8, k8, n8⟩, -, X8, ⟨Lc8, hQ8, l8, y8, z8⟩, st8⟩ := Jvm.LawKit.callS X7 hx (y := (⟨"com/example/dequeue/dequeue/store/MessageCodec", "readable", "(B)Z"⟩ : MethodName)) hown (mvT hZ (hw _ (List.mem_of_getElem? (i := 0) rfl))) (mvT hZ (hw _ (List.mem_of_getElem? (i := 1) rfl))) (mvT hZ (hw _ (List.mem_of_getElem? (i := 2) rfl))) (mvT hZ (hw _ (List.mem_of_getElem? (i := 3) rfl))) (by decide) (backOf (W := 0) (rm1 l Z a0 hw [] (3 : Int32) h0 n0 Z0) hZ (hw _ (List.mem_of_getElem? (i := 3) rfl)) (hw _ (List.mem_of_getElem? (i := 2) rfl)) (by decide) (by decide)) (g := (mkF m 30 #[.val (.int p1), .val (.int (p1.toInt8.toInt32)), .val (.int (1 : Int32)), .val (.int (fn1 (p1.toInt8.toInt32))), .unset, .unset] [(.int (3 : Int32))])) rfl (by rw [hml]; rfl) (argsL := [(.int (3 : Int32))]) (rest := []) (lenOf pd_0 rfl) rfl (by show 2 * 0 + _ ≤ _; exact Nat.le_of_eq rfl) (hb hby at_30) (fun _ _ => ⟨rfl, e7, (by decide : 0 + 0 ≤ _), (by decide : 0 + 0 ≤ _)⟩)
        dsimp only [Pt.U, Pt.locs, Pt.cells, Pt.slots] at X8 l8 y8 z8 st8 hQ8
        subst l8 y8 z8
        obtain ⟨rfl, N8q, e8⟩ := hQ8
        have N8 := Fr.app N7 N8q
        refine Goes.st (U' := T8.setTop (mkF m 33 #[.val (.int p1), .val (.int (p1.toInt8.toInt32)), .val (.int (1 : Int32)), .val (.int (fn1 (p1.toInt8.toInt32))), .unset, .unset] [(.int (fn1 (3 : Int32)))])) st8 ?_
        refine Goes.st (U' := T8.setTop (mkF m 35 #[.val (.int p1), .val (.int (p1.toInt8.toInt32)), .val (.int (1 : Int32)), .val (.int (fn1 (p1.toInt8.toInt32))), .val (.int (fn1 (3 : Int32))), .unset] [])) (fun t k => XS.istore X8.here hx rfl (hb hby at_33) rfl (l' := #[.val (.int p1), .val (.int (p1.toInt8.toInt32)), .val (.int (1 : Int32)), .val (.int (fn1 (p1.toInt8.toInt32))), .val (.int (fn1 (3 : Int32))), .unset]) rfl k) ?_
        refine Goes.st (U' := T8.setTop (mkF m 36 #[.val (.int p1), .val (.int (p1.toInt8.toInt32)), .val (.int (1 : Int32)), .val (.int (fn1 (p1.toInt8.toInt32))), .val (.int (fn1 (3 : Int32))), .unset] [(.int (1 : Int32))])) (fun t k => XS.iconst X8.here hx rfl (hb hby at_35) k) ?_
        obtain ⟨_, _, ⟨T9, L9, k9, n9⟩, -, X9, ⟨Lc9, hQ9, l9, y9, z9⟩, st9⟩ := Jvm.LawKit.callS X8 hx (y := (⟨"com/example/dequeue/dequeue/store/MessageCodec", "readable", "(B)Z"⟩ : MethodName)) hown (mvT hZ (hw _ (List.mem_of_getElem? (i := 0) rfl))) (mvT hZ (hw _ (List.mem_of_getElem? (i := 1) rfl))) (mvT hZ (hw _ (List.mem_of_getElem? (i := 2) rfl))) (mvT hZ (hw _ (List.mem_of_getElem? (i := 3) rfl))) (by decide) (backOf (W := 0) (rm1 l Z a0 hw [] (1 : Int32) h0 n0 Z0) hZ (hw _ (List.mem_of_getElem? (i := 3) rfl)) (hw _ (List.mem_of_getElem? (i := 2) rfl)) (by decide) (by decide)) (g := (mkF m 36 #[.val (.int p1), .val (.int (p1.toInt8.toInt32)), .val (.int (1 : Int32)), .val (.int (fn1 (p1.toInt8.toInt32))), .val (.int (fn1 (3 : Int32))), .unset] [(.int (1 : Int32))])) rfl (by rw [hml]; rfl) (argsL := [(.int (1 : Int32))]) (rest := []) (lenOf pd_0 rfl) rfl (by show 2 * 0 + _ ≤ _; exact Nat.le_of_eq rfl) (hb hby at_36) (fun _ _ => ⟨rfl, e8, (by decide : 0 + 0 ≤ _), (by decide : 0 + 0 ≤ _)⟩)
        dsimp only [Pt.U, Pt.locs, Pt.cells, Pt.slots] at X9 l9 y9 z9 st9 hQ9
        subst l9 y9 z9
        obtain ⟨rfl, N9q, e9⟩ := hQ9
        have N9 := Fr.app N8 N9q
        refine Goes.st (U' := T9.setTop (mkF m 39 #[.val (.int p1), .val (.int (p1.toInt8.toInt32)), .val (.int (1 : Int32)), .val (.int (fn1 (p1.toInt8.toInt32))), .val (.int (fn1 (3 : Int32))), .unset] [(.int (fn1 (1 : Int32)))])) st9 ?_
        refine Goes.st (U' := T9.setTop (mkF m 41 #[.val (.int p1), .val (.int (p1.toInt8.toInt32)), .val (.int (1 : Int32)), .val (.int (fn1 (p1.toInt8.toInt32))), .val (.int (fn1 (3 : Int32))), .val (.int (fn1 (1 : Int32)))] [])) (fun t k => XS.istore X9.here hx rfl (hb hby at_39) rfl (l' := #[.val (.int p1), .val (.int (p1.toInt8.toInt32)), .val (.int (1 : Int32)), .val (.int (fn1 (p1.toInt8.toInt32))), .val (.int (fn1 (3 : Int32))), .val (.int (fn1 (1 : Int32)))]) rfl k) ?_
        refine Goes.st (U' := T9.setTop (mkF m 42 #[.val (.int p1), .val (.int (p1.toInt8.toInt32)), .val (.int (1 : Int32)), .val (.int (fn1 (p1.toInt8.toInt32))), .val (.int (fn1 (3 : Int32))), .val (.int (fn1 (1 : Int32)))] [(.int (fn1 (p1.toInt8.toInt32)))])) (fun t k => XS.iloadN X9.here hx rfl (hb hby at_41) rfl k) ?_
        refine Goes.st (U' := T9.setTop (mkF m 43 #[.val (.int p1), .val (.int (p1.toInt8.toInt32)), .val (.int (1 : Int32)), .val (.int (fn1 (p1.toInt8.toInt32))), .val (.int (fn1 (3 : Int32))), .val (.int (fn1 (1 : Int32)))] [(.int (1 : Int32)), (.int (fn1 (p1.toInt8.toInt32)))])) (fun t k => XS.iloadN X9.here hx rfl (hb hby at_42) rfl k) ?_
        rcases Decidable.em ((fn1 (p1.toInt8.toInt32)) = (1 : Int32)) with hc43 | hc43
        · refine Goes.st (U' := T9.setTop (mkF m 46 #[.val (.int p1), .val (.int (p1.toInt8.toInt32)), .val (.int (1 : Int32)), .val (.int (fn1 (p1.toInt8.toInt32))), .val (.int (fn1 (3 : Int32))), .val (.int (fn1 (1 : Int32)))] [])) (fun t k => XS.icmpNo X9.here hx rfl (hb hby at_43) rfl (teq hc43).2 k) ?_
          refine Goes.st (U' := T9.setTop (mkF m 48 #[.val (.int p1), .val (.int (p1.toInt8.toInt32)), .val (.int (1 : Int32)), .val (.int (fn1 (p1.toInt8.toInt32))), .val (.int (fn1 (3 : Int32))), .val (.int (fn1 (1 : Int32)))] [(.int (fn1 (3 : Int32)))])) (fun t k => XS.iload X9.here hx rfl (hb hby at_46) rfl k) ?_
          rcases Decidable.em ((fn1 (3 : Int32)) = (0 : Int32)) with hc48 | hc48
          · refine Goes.st (U' := T9.setTop (mkF m 60 #[.val (.int p1), .val (.int (p1.toInt8.toInt32)), .val (.int (1 : Int32)), .val (.int (fn1 (p1.toInt8.toInt32))), .val (.int (fn1 (3 : Int32))), .val (.int (fn1 (1 : Int32)))] [])) (fun t k => XS.ifYes X9.here hx rfl (pc0 := 48) (pc' := 60) rfl (hb hby at_48) rfl ((if0 _ _).trans (teq hc48).1) (by decide) (by decide) k) ?_
            refine Goes.st (U' := T9.setTop (mkF m 61 #[.val (.int p1), .val (.int (p1.toInt8.toInt32)), .val (.int (1 : Int32)), .val (.int (fn1 (p1.toInt8.toInt32))), .val (.int (fn1 (3 : Int32))), .val (.int (fn1 (1 : Int32)))] [(.int (0 : Int32))])) (fun t k => XS.iconst X9.here hx rfl (hb hby at_60) k) ?_
            refine Goes.retZ X9 hx (BodyLoose.notSynchronized Bd) Bd.returns (hb hby at_61) rfl (by decide) (by decide) ?_
            show Q0 Z p1 h0 n0 _ T9.heap _
            rw [e9]
            exact ⟨(congrArg some (congrArg _ (by unfold fn0; rw [if_neg hc5]; rw [if_neg hc10]; rw [if_pos hc15]; rw [if_pos hc43]; rw [if_pos hc48]))), N9, rfl⟩
          · refine Goes.st (U' := T9.setTop (mkF m 51 #[.val (.int p1), .val (.int (p1.toInt8.toInt32)), .val (.int (1 : Int32)), .val (.int (fn1 (p1.toInt8.toInt32))), .val (.int (fn1 (3 : Int32))), .val (.int (fn1 (1 : Int32)))] [])) (fun t k => XS.ifNo X9.here hx rfl (hb hby at_48) rfl ((if0 _ _).trans (feq hc48).1) k) ?_
            refine Goes.st (U' := T9.setTop (mkF m 53 #[.val (.int p1), .val (.int (p1.toInt8.toInt32)), .val (.int (1 : Int32)), .val (.int (fn1 (p1.toInt8.toInt32))), .val (.int (fn1 (3 : Int32))), .val (.int (fn1 (1 : Int32)))] [(.int (fn1 (1 : Int32)))])) (fun t k => XS.iload X9.here hx rfl (hb hby at_51) rfl k) ?_
            rcases Decidable.em ((fn1 (1 : Int32)) = (0 : Int32)) with hc53 | hc53
            · refine Goes.st (U' := T9.setTop (mkF m 60 #[.val (.int p1), .val (.int (p1.toInt8.toInt32)), .val (.int (1 : Int32)), .val (.int (fn1 (p1.toInt8.toInt32))), .val (.int (fn1 (3 : Int32))), .val (.int (fn1 (1 : Int32)))] [])) (fun t k => XS.ifYes X9.here hx rfl (pc0 := 53) (pc' := 60) rfl (hb hby at_53) rfl ((if0 _ _).trans (teq hc53).1) (by decide) (by decide) k) ?_
              refine Goes.st (U' := T9.setTop (mkF m 61 #[.val (.int p1), .val (.int (p1.toInt8.toInt32)), .val (.int (1 : Int32)), .val (.int (fn1 (p1.toInt8.toInt32))), .val (.int (fn1 (3 : Int32))), .val (.int (fn1 (1 : Int32)))] [(.int (0 : Int32))])) (fun t k => XS.iconst X9.here hx rfl (hb hby at_60) k) ?_
              refine Goes.retZ X9 hx (BodyLoose.notSynchronized Bd) Bd.returns (hb hby at_61) rfl (by decide) (by decide) ?_
              show Q0 Z p1 h0 n0 _ T9.heap _
              rw [e9]
              exact ⟨(congrArg some (congrArg _ (by unfold fn0; rw [if_neg hc5]; rw [if_neg hc10]; rw [if_pos hc15]; rw [if_pos hc43]; rw [if_neg hc48]; rw [if_pos hc53]))), N9, rfl⟩
            · refine Goes.st (U' := T9.setTop (mkF m 56 #[.val (.int p1), .val (.int (p1.toInt8.toInt32)), .val (.int (1 : Int32)), .val (.int (fn1 (p1.toInt8.toInt32))), .val (.int (fn1 (3 : Int32))), .val (.int (fn1 (1 : Int32)))] [])) (fun t k => XS.ifNo X9.here hx rfl (hb hby at_53) rfl ((if0 _ _).trans (feq hc53).1) k) ?_
              refine Goes.st (U' := T9.setTop (mkF m 57 #[.val (.int p1), .val (.int (p1.toInt8.toInt32)), .val (.int (1 : Int32)), .val (.int (fn1 (p1.toInt8.toInt32))), .val (.int (fn1 (3 : Int32))), .val (.int (fn1 (1 : Int32)))] [(.int (1 : Int32))])) (fun t k => XS.iconst X9.here hx rfl (hb hby at_56) k) ?_
              refine Goes.st (U' := T9.setTop (mkF m 61 #[.val (.int p1), .val (.int (p1.toInt8.toInt32)), .val (.int (1 : Int32)), .val (.int (fn1 (p1.toInt8.toInt32))), .val (.int (fn1 (3 : Int32))), .val (.int (fn1 (1 : Int32)))] [(.int (1 : Int32))])) (fun t k => XS.goto X9.here hx rfl (pc0 := 57) (pc' := 61) rfl (hb hby at_57) (by decide) (by decide) k) ?_
              refine Goes.retZ X9 hx (BodyLoose.notSynchronized Bd) Bd.returns (hb hby at_61) rfl (by decide) (by decide) ?_
              show Q0 Z p1 h0 n0 _ T9.heap _
              rw [e9]
              exact ⟨(congrArg some (congrArg _ (by unfold fn0; rw [if_neg hc5]; rw [if_neg hc10]; rw [if_pos hc15]; rw [if_pos hc43]; rw [if_neg hc48]; rw [if_neg hc53]))), N9, rfl⟩
        · refine Goes.st (U' := T9.setTop (mkF m 60 #[.val (.int p1), .val (.int (p1.toInt8.toInt32)), .val (.int (1 : Int32)), .val (.int (fn1 (p1.toInt8.toInt32))), .val (.int (fn1 (3 : Int32))), .val (.int (fn1 (1 : Int32)))] [])) (fun t k => XS.icmpYes X9.here hx rfl (pc0 := 43) (pc' := 60) rfl (hb hby at_43) rfl (feq hc43).2 (by decide) (by decide) k) ?_
          refine Goes.st (U' := T9.setTop (mkF m 61 #[.val (.int p1), .val (.int (p1.toInt8.toInt32)), .val (.int (1 : Int32)), .val (.int (fn1 (p1.toInt8.toInt32))), .val (.int (fn1 (3 : Int32))), .val (.int (fn1 (1 : Int32)))] [(.int (0 : Int32))])) (fun t k => XS.iconst X9.here hx rfl (hb hby at_60) k) ?_
          refine Goes.retZ X9 hx (BodyLoose.notSynchronized Bd) Bd.returns (hb hby at_61) rfl (by decide) (by decide) ?_
          show Q0 Z p1 h0 n0 _ T9.heap _
          rw [e9]
          exact ⟨(congrArg some (congrArg _ (by unfold fn0; rw [if_neg hc5]; rw [if_neg hc10]; rw [if_pos hc15]; rw [if_neg hc43]))), N9, rfl⟩
      · refine Goes.st (U' := s₁.setTop (mkF m 22 #[.val (.int p1), .val (.int (p1.toInt8.toInt32)), .unset, .unset, .unset, .unset] [])) (fun t k => XS.icmpYes X0.here hx rfl (pc0 := 15) (pc' := 22) rfl (hb hby at_15) rfl (feq hc15).2 (by decide) (by decide) k) ?_
        refine Goes.st (U' := s₁.setTop (mkF m 23 #[.val (.int p1), .val (.int (p1.toInt8.toInt32)), .unset, .unset, .unset, .unset] [(.int (0 : Int32))])) (fun t k => XS.iconst X0.here hx rfl (hb hby at_22) k) ?_
        refine Goes.st (U' := s₁.setTop (mkF m 24 #[.val (.int p1), .val (.int (p1.toInt8.toInt32)), .val (.int (0 : Int32)), .unset, .unset, .unset] [])) (fun t k => XS.istoreN X0.here hx rfl (hb hby at_23) rfl (l' := #[.val (.int p1), .val (.int (p1.toInt8.toInt32)), .val (.int (0 : Int32)), .unset, .unset, .unset]) rfl k) ?_
        refine Goes.st (U' := s₁.setTop (mkF m 25 #[.val (.int p1), .val (.int (p1.toInt8.toInt32)), .val (.int (0 : Int32)), .unset, .unset, .unset] [(.int (p1.toInt8.toInt32))])) (fun t k => XS.iloadN X0.here hx rfl (hb hby at_24) rfl k) ?_
        obtain ⟨_, _, ⟨T10, L10, k10, n10⟩, -, X10, ⟨Lc10, hQ10, l10, y10, z10⟩, st10⟩ := Jvm.LawKit.callS X0 hx (y := (⟨"com/example/dequeue/dequeue/store/MessageCodec", "readable", "(B)Z"⟩ : MethodName)) hown (mvT hZ (hw _ (List.mem_of_getElem? (i := 0) rfl))) (mvT hZ (hw _ (List.mem_of_getElem? (i := 1) rfl))) (mvT hZ (hw _ (List.mem_of_getElem? (i := 2) rfl))) (mvT hZ (hw _ (List.mem_of_getElem? (i := 3) rfl))) (by decide) (backOf (W := 0) (rm1 l Z a0 hw [] (p1.toInt8.toInt32) h0 n0 Z0) hZ (hw _ (List.mem_of_getElem? (i := 3) rfl)) (hw _ (List.mem_of_getElem? (i := 2) rfl)) (by decide) (by decide)) (g := (mkF m 25 #[.val (.int p1), .val (.int (p1.toInt8.toInt32)), .val (.int (0 : Int32)), .unset, .unset, .unset] [(.int (p1.toInt8.toInt32))])) rfl (by rw [hml]; rfl) (argsL := [(.int (p1.toInt8.toInt32))]) (rest := []) (lenOf pd_0 rfl) rfl (by show 2 * 0 + _ ≤ _; exact Nat.le_of_eq rfl) (hb hby at_25) (fun _ _ => ⟨rfl, e0, (by decide : 0 + 0 ≤ _), (by decide : 0 + 0 ≤ _)⟩)
        dsimp only [Pt.U, Pt.locs, Pt.cells, Pt.slots] at X10 l10 y10 z10 st10 hQ10
        subst l10 y10 z10
        obtain ⟨rfl, N10q, e10⟩ := hQ10
        have N10 := Fr.app N0 N10q
        refine Goes.st (U' := T10.setTop (mkF m 28 #[.val (.int p1), .val (.int (p1.toInt8.toInt32)), .val (.int (0 : Int32)), .unset, .unset, .unset] [(.int (fn1 (p1.toInt8.toInt32)))])) st10 ?_
        refine Goes.st (U' := T10.setTop (mkF m 29 #[.val (.int p1), .val (.int (p1.toInt8.toInt32)), .val (.int (0 : Int32)), .val (.int (fn1 (p1.toInt8.toInt32))), .unset, .unset] [])) (fun t k => XS.istoreN X10.here hx rfl (hb hby at_28) rfl (l' := #[.val (.int p1), .val (.int (p1.toInt8.toInt32)), .val (.int (0 : Int32)), .val (.int (fn1 (p1.toInt8.toInt32))), .unset, .unset]) rfl k) ?_
        refine Goes.st (U' := T10.setTop (mkF m 30 #[.val (.int p1), .val (.int (p1.toInt8.toInt32)), .val (.int (0 : Int32)), .val (.int (fn1 (p1.toInt8.toInt32))), .unset, .unset] [(.int (3 : Int32))])) (fun t k => XS.iconst X10.here hx rfl (hb hby at_29) k) ?_
        obtain ⟨_, _, ⟨T11, L11, k11, n11⟩, -, X11, ⟨Lc11, hQ11, l11, y11, z11⟩, st11⟩ := Jvm.LawKit.callS X10 hx (y := (⟨"com/example/dequeue/dequeue/store/MessageCodec", "readable", "(B)Z"⟩ : MethodName)) hown (mvT hZ (hw _ (List.mem_of_getElem? (i := 0) rfl))) (mvT hZ (hw _ (List.mem_of_getElem? (i := 1) rfl))) (mvT hZ (hw _ (List.mem_of_getElem? (i := 2) rfl))) (mvT hZ (hw _ (List.mem_of_getElem? (i := 3) rfl))) (by decide) (backOf (W := 0) (rm1 l Z a0 hw [] (3 : Int32) h0 n0 Z0) hZ (hw _ (List.mem_of_getElem? (i := 3) rfl)) (hw _ (List.mem_of_getElem? (i := 2) rfl)) (by decide) (by decide)) (g := (mkF m 30 #[.val (.int p1), .val (.int (p1.toInt8.toInt32)), .val (.int (0 : Int32)), .val (.int (fn1 (p1.toInt8.toInt32))), .unset, .unset] [(.int (3 : Int32))])) rfl (by rw [hml]; rfl) (argsL := [(.int (3 : Int32))]) (rest := []) (lenOf pd_0 rfl) rfl (by show 2 * 0 + _ ≤ _; exact Nat.le_of_eq rfl) (hb hby at_30) (fun _ _ => ⟨rfl, e10, (by decide : 0 + 0 ≤ _), (by decide : 0 + 0 ≤ _)⟩)
        dsimp only [Pt.U, Pt.locs, Pt.cells, Pt.slots] at X11 l11 y11 z11 st11 hQ11
        subst l11 y11 z11
        obtain ⟨rfl, N11q, e11⟩ := hQ11
        have N11 := Fr.app N10 N11q
        refine Goes.st (U' := T11.setTop (mkF m 33 #[.val (.int p1), .val (.int (p1.toInt8.toInt32)), .val (.int (0 : Int32)), .val (.int (fn1 (p1.toInt8.toInt32))), .unset, .unset] [(.int (fn1 (3 : Int32)))])) st11 ?_
        refine Goes.st (U' := T11.setTop (mkF m 35 #[.val (.int p1), .val (.int (p1.toInt8.toInt32)), .val (.int (0 : Int32)), .val (.int (fn1 (p1.toInt8.toInt32))), .val (.int (fn1 (3 : Int32))), .unset] [])) (fun t k => XS.istore X11.here hx rfl (hb hby at_33) rfl (l' := #[.val (.int p1), .val (.int (p1.toInt8.toInt32)), .val (.int (0 : Int32)), .val (.int (fn1 (p1.toInt8.toInt32))), .val (.int (fn1 (3 : Int32))), .unset]) rfl k) ?_
        refine Goes.st (U' := T11.setTop (mkF m 36 #[.val (.int p1), .val (.int (p1.toInt8.toInt32)), .val (.int (0 : Int32)), .val (.int (fn1 (p1.toInt8.toInt32))), .val (.int (fn1 (3 : Int32))), .unset] [(.int (1 : Int32))])) (fun t k => XS.iconst X11.here hx rfl (hb hby at_35) k) ?_
        obtain ⟨_, _, ⟨T12, L12, k12, n12⟩, -, X12, ⟨Lc12, hQ12, l12, y12, z12⟩, st12⟩ := Jvm.LawKit.callS X11 hx (y := (⟨"com/example/dequeue/dequeue/store/MessageCodec", "readable", "(B)Z"⟩ : MethodName)) hown (mvT hZ (hw _ (List.mem_of_getElem? (i := 0) rfl))) (mvT hZ (hw _ (List.mem_of_getElem? (i := 1) rfl))) (mvT hZ (hw _ (List.mem_of_getElem? (i := 2) rfl))) (mvT hZ (hw _ (List.mem_of_getElem? (i := 3) rfl))) (by decide) (backOf (W := 0) (rm1 l Z a0 hw [] (1 : Int32) h0 n0 Z0) hZ (hw _ (List.mem_of_getElem? (i := 3) rfl)) (hw _ (List.mem_of_getElem? (i := 2) rfl)) (by decide) (by decide)) (g := (mkF m 36 #[.val (.int p1), .val (.int (p1.toInt8.toInt32)), .val (.int (0 : Int32)), .val (.int (fn1 (p1.toInt8.toInt32))), .val (.int (fn1 (3 : Int32))), .unset] [(.int (1 : Int32))])) rfl (by rw [hml]; rfl) (argsL := [(.int (1 : Int32))]) (rest := []) (lenOf pd_0 rfl) rfl (by show 2 * 0 + _ ≤ _; exact Nat.le_of_eq rfl) (hb hby at_36) (fun _ _ => ⟨rfl, e11, (by decide : 0 + 0 ≤ _), (by decide : 0 + 0 ≤ _)⟩)
        dsimp only [Pt.U, Pt.locs, Pt.cells, Pt.slots] at X12 l12 y12 z12 st12 hQ12
        subst l12 y12 z12
        obtain ⟨rfl, N12q, e12⟩ := hQ12
        have N12 := Fr.app N11 N12q
        refine Goes.st (U' := T12.setTop (mkF m 39 #[.val (.int p1), .val (.int (p1.toInt8.toInt32)), .val (.int (0 : Int32)), .val (.int (fn1 (p1.toInt8.toInt32))), .val (.int (fn1 (3 : Int32))), .unset] [(.int (fn1 (1 : Int32)))])) st12 ?_
        refine Goes.st (U' := T12.setTop (mkF m 41 #[.val (.int p1), .val (.int (p1.toInt8.toInt32)), .val (.int (0 : Int32)), .val (.int (fn1 (p1.toInt8.toInt32))), .val (.int (fn1 (3 : Int32))), .val (.int (fn1 (1 : Int32)))] [])) (fun t k => XS.istore X12.here hx rfl (hb hby at_39) rfl (l' := #[.val (.int p1), .val (.int (p1.toInt8.toInt32)), .val (.int (0 : Int32)), .val (.int (fn1 (p1.toInt8.toInt32))), .val (.int (fn1 (3 : Int32))), .val (.int (fn1 (1 : Int32)))]) rfl k) ?_
        refine Goes.st (U' := T12.setTop (mkF m 42 #[.val (.int p1), .val (.int (p1.toInt8.toInt32)), .val (.int (0 : Int32)), .val (.int (fn1 (p1.toInt8.toInt32))), .val (.int (fn1 (3 : Int32))), .val (.int (fn1 (1 : Int32)))] [(.int (fn1 (p1.toInt8.toInt32)))])) (fun t k => XS.iloadN X12.here hx rfl (hb hby at_41) rfl k) ?_
        refine Goes.st (U' := T12.setTop (mkF m 43 #[.val (.int p1), .val (.int (p1.toInt8.toInt32)), .val (.int (0 : Int32)), .val (.int (fn1 (p1.toInt8.toInt32))), .val (.int (fn1 (3 : Int32))), .val (.int (fn1 (1 : Int32)))] [(.int (0 : Int32)), (.int (fn1 (p1.toInt8.toInt32)))])) (fun t k => XS.iloadN X12.here hx rfl (hb hby at_42) rfl k) ?_
        rcases Decidable.em ((fn1 (p1.toInt8.toInt32)) = (0 : Int32)) with hc43 | hc43
        · refine Goes.st (U' := T12.setTop (mkF m 46 #[.val (.int p1), .val (.int (p1.toInt8.toInt32)), .val (.int (0 : Int32)), .val (.int (fn1 (p1.toInt8.toInt32))), .val (.int (fn1 (3 : Int32))), .val (.int (fn1 (1 : Int32)))] [])) (fun t k => XS.icmpNo X12.here hx rfl (hb hby at_43) rfl (teq hc43).2 k) ?_
          refine Goes.st (U' := T12.setTop (mkF m 48 #[.val (.int p1), .val (.int (p1.toInt8.toInt32)), .val (.int (0 : Int32)), .val (.int (fn1 (p1.toInt8.toInt32))), .val (.int (fn1 (3 : Int32))), .val (.int (fn1 (1 : Int32)))] [(.int (fn1 (3 : Int32)))])) (fun t k => XS.iload X12.here hx rfl (hb hby at_46) rfl k) ?_
          rcases Decidable.em ((fn1 (3 : Int32)) = (0 : Int32)) with hc48 | hc48
          · refine Goes.st (U' := T12.setTop (mkF m 60 #[.val (.int p1), .val (.int (p1.toInt8.toInt32)), .val (.int (0 : Int32)), .val (.int (fn1 (p1.toInt8.toInt32))), .val (.int (fn1 (3 : Int32))), .val (.int (fn1 (1 : Int32)))] [])) (fun t k => XS.ifYes X12.here hx rfl (pc0 := 48) (pc' := 60) rfl (hb hby at_48) rfl ((if0 _ _).trans (teq hc48).1) (by decide) (by decide) k) ?_
            refine Goes.st (U' := T12.setTop (mkF m 61 #[.val (.int p1), .val (.int (p1.toInt8.toInt32)), .val (.int (0 : Int32)), .val (.int (fn1 (p1.toInt8.toInt32))), .val (.int (fn1 (3 : Int32))), .val (.int (fn1 (1 : Int32)))] [(.int (0 : Int32))])) (fun t k => XS.iconst X12.here hx rfl (hb hby at_60) k) ?_
            refine Goes.retZ X12 hx (BodyLoose.notSynchronized Bd) Bd.returns (hb hby at_61) rfl (by decide) (by decide) ?_
            show Q0 Z p1 h0 n0 _ T12.heap _
            rw [e12]
            exact ⟨(congrArg some (congrArg _ (by unfold fn0; rw [if_neg hc5]; rw [if_neg hc10]; rw [if_neg hc15]; rw [if_pos hc43]; rw [if_pos hc48]))), N12, rfl⟩
          · refine Goes.st (U' := T12.setTop (mkF m 51 #[.val (.int p1), .val (.int (p1.toInt8.toInt32)), .val (.int (0 : Int32)), .val (.int (fn1 (p1.toInt8.toInt32))), .val (.int (fn1 (3 : Int32))), .val (.int (fn1 (1 : Int32)))] [])) (fun t k => XS.ifNo X12.here hx rfl (hb hby at_48) rfl ((if0 _ _).trans (feq hc48).1) k) ?_
            refine Goes.st (U' := T12.setTop (mkF m 53 #[.val (.int p1), .val (.int (p1.toInt8.toInt32)), .val (.int (0 : Int32)), .val (.int (fn1 (p1.toInt8.toInt32))), .val (.int (fn1 (3 : Int32))), .val (.int (fn1 (1 : Int32)))] [(.int (fn1 (1 : Int32)))])) (fun t k => XS.iload X12.here hx rfl (hb hby at_51) rfl k) ?_
            rcases Decidable.em ((fn1 (1 : Int32)) = (0 : Int32)) with hc53 | hc53
            · refine Goes.st (U' := T12.setTop (mkF m 60 #[.val (.int p1), .val (.int (p1.toInt8.toInt32)), .val (.int (0 : Int32)), .val (.int (fn1 (p1.toInt8.toInt32))), .val (.int (fn1 (3 : Int32))), .val (.int (fn1 (1 : Int32)))] [])) (fun t k => XS.ifYes X12.here hx rfl (pc0 := 53) (pc' := 60) rfl (hb hby at_53) rfl ((if0 _ _).trans (teq hc53).1) (by decide) (by decide) k) ?_
              refine Goes.st (U' := T12.setTop (mkF m 61 #[.val (.int p1), .val (.int (p1.toInt8.toInt32)), .val (.int (0 : Int32)), .val (.int (fn1 (p1.toInt8.toInt32))), .val (.int (fn1 (3 : Int32))), .val (.int (fn1 (1 : Int32)))] [(.int (0 : Int32))])) (fun t k => XS.iconst X12.here hx rfl (hb hby at_60) k) ?_
              refine Goes.retZ X12 hx (BodyLoose.notSynchronized Bd) Bd.returns (hb hby at_61) rfl (by decide) (by decide) ?_
              show Q0 Z p1 h0 n0 _ T12.heap _
              rw [e12]
              exact ⟨(congrArg some (congrArg _ (by unfold fn0; rw [if_neg hc5]; rw [if_neg hc10]; rw [if_neg hc15]; rw [if_pos hc43]; rw [if_neg hc48]; rw [if_pos hc53]))), N12, rfl⟩
            · refine Goes.st (U' := T12.setTop (mkF m 56 #[.val (.int p1), .val (.int (p1.toInt8.toInt32)), .val (.int (0 : Int32)), .val (.int (fn1 (p1.toInt8.toInt32))), .val (.int (fn1 (3 : Int32))), .val (.int (fn1 (1 : Int32)))] [])) (fun t k => XS.ifNo X12.here hx rfl (hb hby at_53) rfl ((if0 _ _).trans (feq hc53).1) k) ?_
              refine Goes.st (U' := T12.setTop (mkF m 57 #[.val (.int p1), .val (.int (p1.toInt8.toInt32)), .val (.int (0 : Int32)), .val (.int (fn1 (p1.toInt8.toInt32))), .val (.int (fn1 (3 : Int32))), .val (.int (fn1 (1 : Int32)))] [(.int (1 : Int32))])) (fun t k => XS.iconst X12.here hx rfl (hb hby at_56) k) ?_
              refine Goes.st (U' := T12.setTop (mkF m 61 #[.val (.int p1), .val (.int (p1.toInt8.toInt32)), .val (.int (0 : Int32)), .val (.int (fn1 (p1.toInt8.toInt32))), .val (.int (fn1 (3 : Int32))), .val (.int (fn1 (1 : Int32)))] [(.int (1 : Int32))])) (fun t k => XS.goto X12.here hx rfl (pc0 := 57) (pc' := 61) rfl (hb hby at_57) (by decide) (by decide) k) ?_
              refine Goes.retZ X12 hx (BodyLoose.notSynchronized Bd) Bd.returns (hb hby at_61) rfl (by decide) (by decide) ?_
              show Q0 Z p1 h0 n0 _ T12.heap _
              rw [e12]
              exact ⟨(congrArg some (congrArg _ (by unfold fn0; rw [if_neg hc5]; rw [if_neg hc10]; rw [if_neg hc15]; rw [if_pos hc43]; rw [if_neg hc48]; rw [if_neg hc53]))), N12, rfl⟩
        · refine Goes.st (U' := T12.setTop (mkF m 60 #[.val (.int p1), .val (.int (p1.toInt8.toInt32)), .val (.int (0 : Int32)), .val (.int (fn1 (p1.toInt8.toInt32))), .val (.int (fn1 (3 : Int32))), .val (.int (fn1 (1 : Int32)))] [])) (fun t k => XS.icmpYes X12.here hx rfl (pc0 := 43) (pc' := 60) rfl (hb hby at_43) rfl (feq hc43).2 (by decide) (by decide) k) ?_
          refine Goes.st (U' := T12.setTop (mkF m 61 #[.val (.int p1), .val (.int (p1.toInt8.toInt32)), .val (.int (0 : Int32)), .val (.int (fn1 (p1.toInt8.toInt32))), .val (.int (fn1 (3 : Int32))), .val (.int (fn1 (1 : Int32)))] [(.int (0 : Int32))])) (fun t k => XS.iconst X12.here hx rfl (hb hby at_60) k) ?_
          refine Goes.retZ X12 hx (BodyLoose.notSynchronized Bd) Bd.returns (hb hby at_61) rfl (by decide) (by decide) ?_
          show Q0 Z p1 h0 n0 _ T12.heap _
          rw [e12]
          exact ⟨(congrArg some (congrArg _ (by unfold fn0; rw [if_neg hc5]; rw [if_neg hc10]; rw [if_neg hc15]; rw [if_neg hc43]))), N12, rfl⟩
theorem own_b (b : Int32) (h1 : ¬ b = 1) (h2 : ¬ b = 2) (h3 : ¬ b = 3) : fn1 b = 0 := by
  unfold fn1
  have e1 : (1 : Int32).toInt = 1 := rfl
  have e2 : (2 : Int32).toInt = 2 := rfl
  have e3 : (3 : Int32).toInt = 3 := rfl
  simp only [← Int32.toInt_inj] at h1 h2 h3
  by_cases h : b < 1
  · rw [if_pos h]
  · rw [if_neg h, if_pos]
    rw [Int32.lt_iff_toInt_lt] at h ⊢
    omega
theorem plain (p1 : Int32) : fn0 p1 = 1 := by
  unfold fn0
  generalize p1.toInt8.toInt32 = b
  by_cases h1 : b = 1
  · subst h1; decide +kernel
  by_cases h2 : b = 2
  · subst h2; decide +kernel
  by_cases h3 : b = 3
  · subst h3; decide +kernel
  have e1 : fn1 3 = 1 := by decide +kernel
  have e2 : fn1 1 = 1 := by decide +kernel
  simp [h1, h2, h3, own_b b h1 h2 h3, e1, e2]
set_option maxRecDepth 65536 in
set_option maxHeartbeats 40000000 in
theorem comes_1 {Post : Tables → Env → Array Value → State → Outcome → State → Prop} (hpost : ∀ tb e args s v u, (limb_1_1.after args s (.returned v) u = true ∧ limb_1_2.after args s (.returned v) u = true ∧ True) → FrameEnd s (.returned v) u (Jvm.fieldLocs frame_1_writes args s ++ Jvm.arrayLocs frame_1_arrays args s ++ Jvm.staticLocs frame_1_statics s) 0 0 → Post tb e args s (.returned v) u) :
    ArmFor flags0 classFile x code maxLocals ret World_1 tables_1 room_1 Calls_1 rest_1 Pre_1 Post := by
  intro l hfl _ _ p e ha hc hk s m args below hf hA hF happ hP
  obtain ⟨hcalls, hrest, hpre⟩ := hP
  obtain ⟨-, -, -, hnamed, -, -, -, hat⟩ := (Spec.applies_iff hf).mp happ
  obtain ⟨hg, hn⟩ := and_e (Cond.before_iff.mp (show (Jvm.Cond.and given_1 narrow_1).before args s = true from hpre))
  obtain ⟨gg1, gg2⟩ := and_e hg
  obtain ⟨w0, rfl⟩ : ∃ w0 : Value, args = #[w0] := by
    have hs : args.size = 1 := by simpa [Cond.value, given_1] using gg1
    obtain ⟨L⟩ := args
    match L, hs with
    | [w0], _ => exact ⟨w0, rfl⟩
  have hw := fun d (hd : d ∈ tables_1) => atoms_spec (ws := Jvm.Cond.code x code maxLocals ret :: tables_1) hat d (List.mem_cons_of_mem _ hd)
  obtain ⟨i0, ei0⟩ := is_v gg2
  obtain rfl : w0 = (.int i0) := Option.some.inj ei0
  obtain ⟨n, o, h1, h2, h3, v, L, rfl, hQ, hq⟩ := rm0 l s _ hw tables_1 i0 s.heap s.heap.size (Nat.le_refl _) p e ha hc hk s m _ below hf ((Spec.applies_iff_loose hf).mp happ).1 ⟨rfl, State.Warmed39.refl s, rfl⟩ trivial
  obtain ⟨hv, N, -⟩ := hQ
  rw [plain] at hv
  subst hv
  exact ⟨n, _, h1, h2, h3, hpost _ _ _ _ _ _ ⟨Cond.after_iff.mpr rfl, Cond.after_iff.mpr (eq_i res_at (Term.int_eval (1)) rfl), trivial⟩ ⟨hq.1, hq.2.1, (hq.2.2.sift fun y hy => Or.inr (N y hy)).mono (by decide) (by decide)⟩⟩
theorem main_1_1 : Claimed_1_1 := comes_1 fun _ _ _ _ _ _ h hF => ⟨h.1, hF⟩
theorem main_1_2 : Claimed_1_2 := comes_1 fun _ _ _ _ _ _ h hF => ⟨h.2.1, hF⟩
end Jvm.Pilot.@@N@@
namespace Jvm.Pilot.@@N@@
open Jvm Jvm.ClassFile Sem Op Lib Jvm.Free Jvm.Stand Jvm.Pilot.@@N@@.Jvm.D
/-! MADE BY PROGRAM (witnessworld.py) out of the Statement's table words and the real class files: 9 classes; the members and pool entries that the words name. The judged class is class 1, her method 1. -/
namespace start1
open Jvm.ClassFile
def u (s : String) : CpInfo := .utf8 (stringToUtf16 s)
/-- a pool by its gaps: so many unusable entries, then the entry; so many at the end -/
def gap : Nat → List CpInfo → List CpInfo
  | 0, r => r
  | n + 1, r => .unusable :: gap n r
def poolList (es : List (Nat × CpInfo)) (last : Nat) : List CpInfo := es.foldr (fun e r => gap e.1 (e.2 :: r)) (gap last [])
def pool (es : List (Nat × CpInfo)) (last : Nat) : Array CpInfo := ⟨poolList es last⟩
def fileOf (pool : Array CpInfo) (this : Nat) (attrs : Array Attribute := #[]) (ms : Array MethodInfo := #[]) (fl : Nat := 33) (sup : Nat := 0) (ifs : Array Nat := #[]) (fds : Array FieldInfo := #[]) : ClassFile where
  minorVersion := 0
  majorVersion := 65
  constantPool := pool
  accessFlags := fl
  thisClass := this
  superClass := sup
  interfaces := ifs
  fields := fds
  methods := ms
  attributes := attrs
def plain (name : String) (sup : Option ClassId) : Class where
  name := name
  kind := .ordinary
  loader := none
  accessFlags := 33
  super := sup
  interfaces := #[]
  cf := none
  fields := #[]
  methods := #[]
  instanceTypes := #[]
  staticTypes := #[]
  resolved := #[]
  callSites := []
  init := .initialized
  statics := none
  mirror := none

def pool0 : Array CpInfo := pool [(5, u "<init>"), (0, u "()V"), (1, .class_ 10), (1, u "java/lang/Object")] 113

def k0m0 : Method := { name := "<init>", desc := "()V", sig := { parameters := [], returnType := none }, accessFlags := 1, code := none }
/-- java/lang/Object -/
def k0 : Class := { plain "java/lang/Object" none with
  accessFlags := 33
  interfaces := #[]
  cf := some (fileOf pool0 8 #[] #[{ accessFlags := 1, nameIndex := 5, descriptorIndex := 6, attributes := #[] }] 33 0 #[] #[])
  fields := #[]
  methods := #[k0m0]
  instanceTypes := #[]
  staticTypes := #[]
  resolved := Array.replicate 124 none
  statics := none }

def pool1 : Array CpInfo := pool [(2, .class_ 4), (1, u "java/lang/Object"), (0, u "<init>"), (0, u "()V"), (0, .methodref 8 9), (0, .class_ 10), (0, .nameAndType 11 12), (0, u "com/example/dequeue/dequeue/store/MessageCodec"), (0, u "readable"), (0, u "(B)Z"), (0, .class_ 14), (0, u "com/example/dequeue/dequeue/store/MessageCodecReadablePinLaw"), (2, u "law"), (0, u "(I)Z")] 3

def k1m0 : Method := { name := "<init>", desc := "()V", sig := { parameters := [], returnType := none }, accessFlags := 2, code := none }
def k1c1 : Code := { maxStack := 2, maxLocals := 6, code := code, exceptionTable := #[], attributes := #[] }
def k1m1 : Method := { name := "law", desc := "(I)Z", sig := { parameters := [.int], returnType := some .boolean }, accessFlags := 9, code := some k1c1 }
/-- com/example/dequeue/dequeue/store/MessageCodecReadablePinLaw -/
def k1 : Class := { plain "com/example/dequeue/dequeue/store/MessageCodecReadablePinLaw" (some 0) with
  accessFlags := 49
  interfaces := #[]
  cf := some (fileOf pool1 13 #[] #[{ accessFlags := 2, nameIndex := 5, descriptorIndex := 6, attributes := #[] }, { accessFlags := 9, nameIndex := 17, descriptorIndex := 18, attributes := #[] }] 49 2 #[] #[])
  fields := #[]
  methods := #[k1m0, k1m1]
  instanceTypes := #[]
  staticTypes := #[]
  resolved := Array.replicate 22 none
  statics := none }

def pool2 : Array CpInfo := pool [(2, .class_ 4), (1, u "java/lang/Object"), (0, u "<init>"), (0, u "()V"), (0, .class_ 8), (0, u "com/example/dequeue/dequeue/store/MessageCodec"), (151, u "FIRST_LAYOUT"), (0, u "B"), (2, u "LAYOUT"), (1, u "FIRST_LAYOUT_WITH_MESSAGE_GROUP"), (2, u "readable"), (0, u "(B)Z")] 11

def k2m0 : Method := { name := "<init>", desc := "()V", sig := { parameters := [], returnType := none }, accessFlags := 2, code := none }
def k2c1 : Code := { maxStack := 2, maxLocals := 1, code := prog_45_method_2_code, exceptionTable := #[], attributes := #[] }
def k2m1 : Method := { name := "readable", desc := "(B)Z", sig := { parameters := [.byte], returnType := some .boolean }, accessFlags := 8, code := some k2c1 }
/-- com/example/dequeue/dequeue/store/MessageCodec -/
def k2 : Class := { plain "com/example/dequeue/dequeue/store/MessageCodec" (some 0) with
  accessFlags := 48
  interfaces := #[]
  cf := some (fileOf pool2 7 #[] #[{ accessFlags := 2, nameIndex := 5, descriptorIndex := 6, attributes := #[] }, { accessFlags := 8, nameIndex := 169, descriptorIndex := 170, attributes := #[] }] 48 2 #[] #[{ accessFlags := 24, nameIndex := 160, descriptorIndex := 161, attributes := #[] }, { accessFlags := 24, nameIndex := 164, descriptorIndex := 161, attributes := #[] }, { accessFlags := 26, nameIndex := 166, descriptorIndex := 161, attributes := #[] }])
  fields := #[{ name := "FIRST_LAYOUT", type := .byte, accessFlags := 24, slot := 0, constantValue := 0 }, { name := "LAYOUT", type := .byte, accessFlags := 24, slot := 1, constantValue := 0 }, { name := "FIRST_LAYOUT_WITH_MESSAGE_GROUP", type := .byte, accessFlags := 26, slot := 2, constantValue := 0 }]
  methods := #[k2m0, k2m1]
  instanceTypes := #[]
  staticTypes := #[.byte, .byte, .byte]
  resolved := Array.replicate 182 none
  statics := none }

def pool3 : Array CpInfo := pool [(1, u "java/lang/Cloneable"), (0, .class_ 1), (0, u "java/lang/Object"), (0, .class_ 3)] 3

/-- java/lang/Cloneable -/
def k3 : Class := { plain "java/lang/Cloneable" (some 0) with
  accessFlags := 1537
  interfaces := #[]
  cf := some (fileOf pool3 2 #[] #[] 1537 4 #[] #[])
  fields := #[]
  methods := #[]
  instanceTypes := #[]
  staticTypes := #[]
  resolved := Array.replicate 8 none
  statics := none }

def pool4 : Array CpInfo := pool [(1, u "java/io/Serializable"), (0, .class_ 1), (0, u "java/lang/Object"), (0, .class_ 3)] 3

/-- java/io/Serializable -/
def k4 : Class := { plain "java/io/Serializable" (some 0) with
  accessFlags := 1537
  interfaces := #[]
  cf := some (fileOf pool4 2 #[] #[] 1537 4 #[] #[])
  fields := #[]
  methods := #[]
  instanceTypes := #[]
  staticTypes := #[]
  resolved := Array.replicate 8 none
  statics := none }

/-- the primitive byte -/
def k5 : Class := { plain "byte" none with kind := .primitive 'B', accessFlags := 0x411 }
/-- [B -/
def k6 : Class := { plain "[B" (some 0) with kind := .array 5 .byte, interfaces := #[3, 4], accessFlags := 1041 }

/-- the primitive int -/
def k7 : Class := { plain "int" none with kind := .primitive 'I', accessFlags := 0x411 }
/-- [I -/
def k8 : Class := { plain "[I" (some 0) with kind := .array 7 .int, interfaces := #[3, 4], accessFlags := 1041 }

def heap : Heap := #[]
def classes : Array Class := #[k0, k1, k2, k3, k4, k5, k6, k7, k8]
def interned : List (Array UInt16 × Addr) := []
def slotsUsed : Nat := 0
def theMethod : MethodId := ⟨1, 1⟩
def args0 : Array Value := #[.int 5]
def aboutOver (below : List Frame) : State where
  vm := { classes := classes, interned := interned.toArray }
  heap := heap
  slotsUsed := slotsUsed
  threads := #[{ frames := .invoking theMethod args0 :: below }]
def below0 : List Frame := [.native { method := ⟨0, 0⟩, args := #[] }]
def about1 : State := aboutOver below0
def p0 : Program := .bare "" "" ""
def e0 : Env := launch0.env 0 0 0
theorem w_frames : about1.frames = Frame.invoking theMethod args0 :: below0 := rfl
set_option maxRecDepth 65536 in
theorem w_args : argsFit about1.vm theMethod args0 = true := by decide +kernel
set_option maxRecDepth 65536 in
theorem w_heap : heapFits about1 = true := by decide +kernel
set_option maxRecDepth 65536 in
theorem w_runnable : about1.curStatus? = some .runnable := by decide +kernel
set_option maxRecDepth 65536 in
theorem w_alone : about1.alone = true := by decide +kernel
set_option maxRecDepth 65536 in
theorem w_named : about1.methodNamed? x = some theMethod := by decide +kernel
set_option maxRecDepth 65536 in
theorem w_hears : about1.hears theMethod below0 = true := by decide +kernel
set_option maxRecDepth 65536 in
theorem w_ripe : about1.ripe theMethod args0 below0 = true := by decide +kernel
theorem w_running : about1.status = .running := rfl
set_option maxRecDepth 65536 in
theorem w_room : about1.hasRoom e0.platform room_1 = true :=
  launch0.hasRoom_least _ room_1 (by decide +kernel) (by decide +kernel) (by decide +kernel) (by decide +kernel) (by decide +kernel) (by decide +kernel)
theorem allAtoms_all (ts : List Jvm.Cond) (a : Array Jvm.Value) (st : Jvm.State) : (allAtoms ts).before a st = ts.all (fun c => c.before a st) := by
  induction ts with
  | nil => rfl
  | cons c t ih =>
    show (Jvm.Cond.and c (allAtoms t)).before a st = _
    rw [Jvm.Cond.before_and, ih, List.all_cons]
def words1 : List Jvm.Cond := Jvm.Cond.code x code maxLocals ret :: tables_1
/-- a 'code' word, met by the world's own term for the bytes: nothing is compared byte by byte -/
theorem code_word {y : MethodName} {bytes : ByteArray} {mx : Nat} {rt : Option FieldType} {a : Array Value} {s : State} {m : MethodId} {meth : Method} {c : Code} (h1 : s.methodNamed? y = some m) (h2 : s.vm.method? m = some meth) (h3 : meth.code = some c) (h4 : c.code = bytes)
    (h5 : (c.maxLocals == mx && c.exceptionTable.isEmpty && decide (c.maxStack ≤ mostOperands) && decide (meth.sig.returnType = rt) && !meth.locks && decide (parseMethodDescriptor y.desc = some meth.sig)) = true) : (Jvm.Cond.code y bytes mx rt).before a s = true := by
  simp only [Bool.and_eq_true, beq_iff_eq, Bool.not_eq_true', decide_eq_true_eq] at h5
  obtain ⟨⟨⟨⟨⟨g1, g2⟩, g3⟩, g4⟩, g5⟩, g6⟩ := h5
  simp [Cond.before, Cond.holds, Cond.value, h1, h2, h3, h4, g1, g2, g3, g4, g5, g6]
def isCode : Jvm.Cond → Bool
  | .code _ _ _ _ => true
  | _ => false
theorem all_split {L : List Jvm.Cond} {P : Jvm.Cond → Bool} (h1 : L.all (fun c => isCode c || P c) = true) (h2 : ∀ c ∈ L.filter isCode, P c = true) : L.all P = true := by
  refine List.all_eq_true.mpr fun c hc => ?_
  have h := List.all_eq_true.mp h1 c hc
  rcases Bool.eq_false_or_eq_true (isCode c) with hi | hi
  · exact h2 c (List.mem_filter.mpr ⟨hc, hi⟩)
  · simpa [hi] using h
set_option maxRecDepth 65536 in
theorem w_c0 : (Jvm.Cond.code x code maxLocals ret).before args0 about1 = true := code_word (m := ⟨1, 1⟩) (meth := k1m1) (c := k1c1) (by decide +kernel) rfl rfl rfl (by decide +kernel)
set_option maxRecDepth 65536 in
theorem w_c1 : (Jvm.Cond.code ({ cls := "com/example/dequeue/dequeue/store/MessageCodec", name := "readable", desc := "(B)Z" } : Jvm.MethodName) prog_45_method_2_code (1 : Nat) (Option.some Jvm.ClassFile.FieldType.boolean)).before args0 about1 = true := code_word (m := ⟨2, 1⟩) (meth := k2m1) (c := k2c1) (by decide +kernel) rfl rfl rfl (by decide +kernel)
def codes1 : List Jvm.Cond := [Jvm.Cond.code x code maxLocals ret, Jvm.Cond.code ({ cls := "com/example/dequeue/dequeue/store/MessageCodec", name := "readable", desc := "(B)Z" } : Jvm.MethodName) prog_45_method_2_code (1 : Nat) (Option.some Jvm.ClassFile.FieldType.boolean)]
set_option maxRecDepth 65536 in
theorem codes_eq : words1.filter isCode = codes1 := rfl
theorem w_codes : ∀ c ∈ words1.filter isCode, c.before args0 about1 = true := by
  rw [codes_eq]
  intro c hc
  simp only [codes1, List.mem_cons, List.not_mem_nil, or_false] at hc
  rcases hc with rfl | rfl
  · exact w_c0
  · exact w_c1
set_option maxRecDepth 65536 in
theorem w_t1 : words1.all (fun c => isCode c || c.before args0 about1) = true := by decide +kernel
theorem w_tables : (allAtoms (Jvm.Cond.code x code maxLocals ret :: tables_1)).before args0 about1 = true := by
  rw [allAtoms_all]
  show words1.all (fun c => c.before args0 about1) = true
  refine all_split ?_ w_codes
  rw [w_t1]
set_option maxRecDepth 65536 in
theorem w_case : (Jvm.Cond.and given_1 narrow_1).before args0 about1 = true := by decide +kernel
theorem w_applies : (headSpec (Jvm.Cond.code x code maxLocals ret :: tables_1) room_1).applies x e0.platform about1 = true :=
  (Spec.applies_iff w_frames).mpr ⟨w_running, w_runnable, w_alone, w_named, w_hears, w_ripe, w_room, w_tables⟩
theorem atStart : AtStart classFile x code maxLocals ret World_1 tables_1 room_1 Calls_1 rest_1 Pre_1 launch0 p0 e0 about1 theMethod args0 below0 :=
  ⟨lists_1, trivial, launch0.admits_env _ _ _, launch0.least_env, fairChoices_fair.cas, fairChoices_fair.clock, w_frames, w_args, w_heap, w_applies, trivial, trivial, w_case⟩
end start1
theorem witness_1 : WitnessClaimed_1 := ⟨start1.p0, start1.e0, start1.about1, start1.theMethod, start1.args0, start1.below0, start1.atStart⟩
end Jvm.Pilot.@@N@@
