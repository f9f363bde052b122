import JvmDerived
import JvmDerived.Pilot.@@N@@Statement
import JvmDerived.Pilot.@@N@@Code
set_option linter.unusedVariables false
set_option linter.unusedSimpArgs false
namespace Jvm.Pilot.@@N@@
open Jvm Jvm.ClassFile Sem Op Lib Jvm.Free Jvm.Stand Jvm.LawKit Jvm.RoadKit Bundle Jvm.Pilot.@@N@@.Jvm.D
/-! OWN PRELUDE: a walk in continuation form: 'Goes .. U': from U on the body comes to its return, with Q -/
section OwnPrelude
variable {p : Program} {l : Launch} {e : Env} {R : Room} {s : State} {m : MethodId} {args : Array Value} {below : List Frame} {meth : Method} {c : Code} {T U U' : State} {locs : List Loc} {cells slots ce sl : Nat} {Q : Option Value → Heap → List Loc → Prop}
def Goes (p : Program) (e : Env) (s : State) (below : List Frame) (Q : Option Value → Heap → List Loc → Prop) (ce sl : Nat) (U : State) : Prop :=
  ∃ t o, Steps p.tables e below U t ∧ t.status = .running ∧ Ended t below o ∧ ∃ v L, o = .returned v ∧ Q v t.heap L ∧ FrameEnd s o t L ce sl
theorem Goes.st (h : ∀ t, Steps p.tables e below U' t → Steps p.tables e below U t) (k : Goes p e s below Q ce sl U') : Goes p e s below Q ce sl U := by
  obtain ⟨t, o, h1, r⟩ := k
  exact ⟨t, o, h t h1, r⟩
theorem Goes.tr (h : Steps p.tables e below U U') (k : Goes p e s below Q ce sl U') : Goes p e s below Q ce sl U := by
  obtain ⟨t, o, h1, r⟩ := k
  exact ⟨t, o, h.trans h1, r⟩
theorem Goes.out (X : Stand p l e R s m args below meth c T locs cells slots) (hlocks : meth.locks = false) {v : Option Value} (hv : meth.sig.returnType = none → v = none) (hc : cells ≤ ce) (hs : slots ≤ sl) (hq : Q v T.heap locs)
    (k : ∀ fs, (∀ (f : JFrame) (acts : List Action), f.method = m → f.locked = none → f.entered = [] → (doReturn e (T.setTop f) acts v).1 = T.setFrames fs) → Steps p.tables e below U (T.setFrames fs)) : Goes p e s below Q ce sl U := by
  obtain ⟨fs, hr, hrun, hended, hW, hsame⟩ := X.leave (v := v) hv hlocks
  exact ⟨_, _, k fs hr, hrun, hended, _, _, rfl, hq, ⟨_, rfl⟩, hW, hsame.mono hc hs⟩
theorem Goes.retI (X : Stand p l e R s m args below meth c T locs cells slots) (hx : p.tables.exec = Jvm.exec) (hlocks : meth.locks = false) {pc : Nat} {Ls : Array Slot} {z : Int32} {rest : List Value} (hret : meth.sig.returnType = some .int) (hd : decode c.code pc = .ok (.ireturn, 1))
    (hc : cells ≤ ce) (hs : slots ≤ sl) (hq : Q (some (.int z)) T.heap locs) : Goes p e s below Q ce sl (T.setTop (mkF m pc Ls (.int z :: rest))) :=
  Goes.out X hlocks (fun h => by rw [hret] at h; cases h) hc hs hq fun fs hl => retOut X hx hret rfl (Or.inl ⟨rfl, Or.inl rfl, _, rfl⟩) hd hl
theorem Goes.retZ (X : Stand p l e R s m args below meth c T locs cells slots) (hx : p.tables.exec = Jvm.exec) (hlocks : meth.locks = false) {pc : Nat} {Ls : Array Slot} {z : Int32} {rest : List Value} (hret : meth.sig.returnType = some .boolean) (hd : decode c.code pc = .ok (.ireturn, 1))
    (hz : z &&& 1 = z) (hc : cells ≤ ce) (hs : slots ≤ sl) (hq : Q (some (.int z)) T.heap locs) : Goes p e s below Q ce sl (T.setTop (mkF m pc Ls (.int z :: rest))) :=
  Goes.out X hlocks (fun h => by rw [hret] at h; cases h) hc hs hq fun fs hl => retOut X hx hret (by show Value.int (z &&& 1) = _; rw [hz]) (Or.inl ⟨rfl, Or.inr (Or.inl rfl), _, rfl⟩) hd hl
theorem Goes.retJ (X : Stand p l e R s m args below meth c T locs cells slots) (hx : p.tables.exec = Jvm.exec) (hlocks : meth.locks = false) {pc : Nat} {Ls : Array Slot} {z : Int64} {rest : List Value} (hret : meth.sig.returnType = some .long) (hd : decode c.code pc = .ok (.lreturn, 1))
    (hc : cells ≤ ce) (hs : slots ≤ sl) (hq : Q (some (.long z)) T.heap locs) : Goes p e s below Q ce sl (T.setTop (mkF m pc Ls (.long z :: rest))) :=
  Goes.out X hlocks (fun h => by rw [hret] at h; cases h) hc hs hq fun fs hl => retOut X hx hret rfl (Or.inr (Or.inl ⟨rfl, rfl, _, rfl⟩)) hd hl
theorem Goes.retA (X : Stand p l e R s m args below meth c T locs cells slots) (hx : p.tables.exec = Jvm.exec) (hlocks : meth.locks = false) {pc : Nat} {Ls : Array Slot} {w : Value} {t : FieldType} {rest : List Value} (hret : meth.sig.returnType = some t) (hd : decode c.code pc = .ok (.areturn, 1))
    (ht : t.isReference = true) (hw : w.isRef = true) (hn : narrow t w = w) (hc : cells ≤ ce) (hs : slots ≤ sl) (hq : Q (some w) T.heap locs) : Goes p e s below Q ce sl (T.setTop (mkF m pc Ls (w :: rest))) :=
  Goes.out X hlocks (fun h => by rw [hret] at h; cases h) hc hs hq fun fs hl => retOut X hx hret hn (Or.inr (Or.inr (Or.inr (Or.inr ⟨rfl, ht, hw⟩)))) hd hl
theorem Goes.retV (X : Stand p l e R s m args below meth c T locs cells slots) (hx : p.tables.exec = Jvm.exec) (hlocks : meth.locks = false) {pc : Nat} {Ls : Array Slot} (hret : meth.sig.returnType = none) (hd : decode c.code pc = .ok (.return_, 1))
    (hc : cells ≤ ce) (hs : slots ≤ sl) (hq : Q none T.heap locs) : Goes p e s below Q ce sl (T.setTop (mkF m pc Ls [])) :=
  Goes.out X hlocks (fun _ => rfl) hc hs hq fun fs hl => X.returnOut hx hret hd hl
/-- a boolean as the machine has it -/
def b2i (b : Bool) : Int32 := if b then 1 else 0
theorem b2i_one (b : Bool) : b2i b &&& 1 = b2i b := by cases b <;> rfl
theorem b2i_t {b : Bool} (h : ¬ b2i b = 0) : b = true := by cases b; exact absurd rfl h; rfl
theorem b2i_f {b : Bool} (h : b2i b = 0) : b = false := by cases b; rfl; exact absurd h (by decide)
theorem Exa_ns {Z : State} {h : Heap} {a : Addr} {C : String} (E : Exa Z h a C) : ∀ cell : Cell, h[a]? = some cell → cell.vm.isStatics = false := fun cell hc => by
  obtain ⟨c1, _, h1, -, -, h4, -⟩ := E
  cases h1.symm.trans hc
  exact h4
theorem Sta_keep {Z : State} {h h' : Heap} {C n d : String} {v : Value} {ws : List Addr} (F : Sta Z h C n d v) (K : Keep h h' ws) (q : ∀ x ∈ ws, ∀ cell : Cell, h[x]? = some cell → cell.vm.isStatics = false) : Sta Z h' C n d v := by
  obtain ⟨cf, i, k, f, st, cell, h1, h2, h3, h4, h5, h6, h7⟩ := F
  exact ⟨cf, i, k, f, st, cell, h1, h2, h3, h4, K.2.1 _ _ h5 (fun y => by have := q _ y _ h5; rw [h6] at this; cases this), h6, h7⟩
theorem own_selp {u : State} {as : Array Value} {y : MethodName} {n : Nat} (hins : (Cond.instantiable y.cls n).before as u = true) (hpriv : u.PrivateAt y) (hinst : (Cond.instanceMethod y).before as u = true) (hy : y.cls ≠ "java/lang/invoke/MethodHandle" ∧ y.cls ≠ "java/lang/invoke/VarHandle") : (Cond.selects y.cls y y).before as u = true := by
  obtain ⟨c, k, hc, hk, -, hniab, -, -⟩ := Cond.instantiable_spec hins
  exact selects_self_of_private hc hk (Bool.or_eq_false_iff.mp hniab).1 hpriv hinst hy
end OwnPrelude

theorem d1_0 : decode method_2_code 0 = .ok (.lload_n 0, 1) := by decide +kernel
theorem d1_1 : decode method_2_code 1 = .ok (.lstore_n 2, 1) := by decide +kernel
theorem d1_2 : decode method_2_code 2 = .ok (.lload_n 2, 1) := by decide +kernel
theorem d1_3 : decode method_2_code 3 = .ok (.ldc2_w 7, 3) := by decide +kernel
theorem d1_6 : decode method_2_code 6 = .ok (.lload_n 0, 1) := by decide +kernel
theorem d1_7 : decode method_2_code 7 = .ok (.lload_n 2, 1) := by decide +kernel
theorem d1_8 : decode method_2_code 8 = .ok (.lmul, 1) := by decide +kernel
theorem d1_9 : decode method_2_code 9 = .ok (.lsub, 1) := by decide +kernel
theorem d1_10 : decode method_2_code 10 = .ok (.lmul, 1) := by decide +kernel
theorem d1_11 : decode method_2_code 11 = .ok (.lstore_n 2, 1) := by decide +kernel
theorem d1_12 : decode method_2_code 12 = .ok (.lload_n 2, 1) := by decide +kernel
theorem d1_13 : decode method_2_code 13 = .ok (.ldc2_w 7, 3) := by decide +kernel
theorem d1_16 : decode method_2_code 16 = .ok (.lload_n 0, 1) := by decide +kernel
theorem d1_17 : decode method_2_code 17 = .ok (.lload_n 2, 1) := by decide +kernel
theorem d1_18 : decode method_2_code 18 = .ok (.lmul, 1) := by decide +kernel
theorem d1_19 : decode method_2_code 19 = .ok (.lsub, 1) := by decide +kernel
theorem d1_20 : decode method_2_code 20 = .ok (.lmul, 1) := by decide +kernel
theorem d1_21 : decode method_2_code 21 = .ok (.lstore_n 2, 1) := by decide +kernel
theorem d1_22 : decode method_2_code 22 = .ok (.lload_n 2, 1) := by decide +kernel
theorem d1_23 : decode method_2_code 23 = .ok (.ldc2_w 7, 3) := by decide +kernel
theorem d1_26 : decode method_2_code 26 = .ok (.lload_n 0, 1) := by decide +kernel
theorem d1_27 : decode method_2_code 27 = .ok (.lload_n 2, 1) := by decide +kernel
theorem d1_28 : decode method_2_code 28 = .ok (.lmul, 1) := by decide +kernel
theorem d1_29 : decode method_2_code 29 = .ok (.lsub, 1) := by decide +kernel
theorem d1_30 : decode method_2_code 30 = .ok (.lmul, 1) := by decide +kernel
theorem d1_31 : decode method_2_code 31 = .ok (.lstore_n 2, 1) := by decide +kernel
theorem d1_32 : decode method_2_code 32 = .ok (.lload_n 2, 1) := by decide +kernel
theorem d1_33 : decode method_2_code 33 = .ok (.ldc2_w 7, 3) := by decide +kernel
theorem d1_36 : decode method_2_code 36 = .ok (.lload_n 0, 1) := by decide +kernel
theorem d1_37 : decode method_2_code 37 = .ok (.lload_n 2, 1) := by decide +kernel
theorem d1_38 : decode method_2_code 38 = .ok (.lmul, 1) := by decide +kernel
theorem d1_39 : decode method_2_code 39 = .ok (.lsub, 1) := by decide +kernel
theorem d1_40 : decode method_2_code 40 = .ok (.lmul, 1) := by decide +kernel
theorem d1_41 : decode method_2_code 41 = .ok (.lstore_n 2, 1) := by decide +kernel
theorem d1_42 : decode method_2_code 42 = .ok (.lload_n 2, 1) := by decide +kernel
theorem d1_43 : decode method_2_code 43 = .ok (.ldc2_w 7, 3) := by decide +kernel
theorem d1_46 : decode method_2_code 46 = .ok (.lload_n 0, 1) := by decide +kernel
theorem d1_47 : decode method_2_code 47 = .ok (.lload_n 2, 1) := by decide +kernel
theorem d1_48 : decode method_2_code 48 = .ok (.lmul, 1) := by decide +kernel
theorem d1_49 : decode method_2_code 49 = .ok (.lsub, 1) := by decide +kernel
theorem d1_50 : decode method_2_code 50 = .ok (.lmul, 1) := by decide +kernel
theorem d1_51 : decode method_2_code 51 = .ok (.lstore_n 2, 1) := by decide +kernel
theorem d1_52 : decode method_2_code 52 = .ok (.lload_n 2, 1) := by decide +kernel
theorem d1_53 : decode method_2_code 53 = .ok (.lreturn, 1) := by decide +kernel
theorem pn_0 : plainName "com/example/spreadbook/spreadbook/io/SplitMix64NextPinLaw" = true := by first | (simp [plainName, overriddenIn]; done) | decide +kernel
theorem ef_rm1 (m : MethodId) (q1 : Int64) : entryFrame m #[(.long q1)] 4 = mkF m 0 #[.val (.long q1), .second, .unset, .unset] [] := by first | (simp [entryFrame, mkF, argsToLocals, Value.category]; done) | rfl
def fn1 (q1 : Int64) : Int64 := (let v1 : Int64 := ((q1 * ((2 : Int64) - (q1 * q1))) * ((2 : Int64) - (q1 * (q1 * ((2 : Int64) - (q1 * q1)))))); (let v2 : Int64 := ((v1 * ((2 : Int64) - (q1 * v1))) * ((2 : Int64) - (q1 * (v1 * ((2 : Int64) - (q1 * v1)))))); (v2 * ((2 : Int64) - (q1 * v2)))))
def Q1 (Z : State) (q1 : Int64) (h0 : Heap) (n0 : Nat) (v : Option Value) (h : Heap) (L : List Loc) : Prop := v = some (.long (fn1 q1)) ∧ Fr n0 L ∧ h = h0
set_option maxRecDepth 65536 in
set_option maxHeartbeats 40000000 in
theorem rm1 (l : Launch) (Z : State) (a0 : Array Value) (hw : ∀ d ∈ tables_1, d.before a0 Z = true) (ws : List Jvm.Cond) (q1 : Int64) (h0 : Heap) (n0 : Nat) (Z0 : n0 ≤ h0.size) :
    MetFree l (⟨"com/example/spreadbook/spreadbook/io/SplitMix64NextPinLaw", "inverseOdd", "(J)J"⟩ : MethodName) (head1 (Jvm.Cond.code (⟨"com/example/spreadbook/spreadbook/io/SplitMix64NextPinLaw", "inverseOdd", "(J)J"⟩ : MethodName) method_2_code 4 (some .long) :: ws) ({ frames := 0, cells := 0, slots := 0, locals := 0 } : Room)) (fun a U => a = #[(.long q1)] ∧ Z.Warmed39 U.vm ∧ U.heap = h0) (fun _ _ _ _ _ => True) (fun _ U o U' => ∃ v L, o = .returned v ∧ Q1 Z q1 h0 n0 v U'.heap L ∧ FrameEnd U o U' L ({ frames := 0, cells := 0, slots := 0, locals := 0 } : Room).cells ({ frames := 0, cells := 0, slots := 0, locals := 0 } : Room).slots) := by
  refine MetFree.of_bodySF (plainFor_of_name pn_0) hisR ?_
  intro p e s m args below meth c s₁ Bd hml0 hP hK
  obtain ⟨rfl, hZ, hh⟩ := hP
  have hx := Bd.exec
  have hby := Bd.bytes
  have hml : c.maxLocals = 4 := hml0
  have hown : s.vm.findClass "com/example/spreadbook/spreadbook/io/SplitMix64NextPinLaw" = some m.cls := findClass_of_methodNamed Bd.named
  have hnm := (name_of_methodNamed Bd.named Bd.method).1
  have X0 : Stand p l e ({ frames := 0, cells := 0, slots := 0, locals := 0 } : Room) s m #[(.long q1)] below meth c s₁ [] 0 0 := Stand.of_body Bd
  have e0 : s₁.heap = h0 := by rw [← hh, Bd.state]; rfl
  have N0 := Fr.nil n0
  show Goes p e s below (fun v h L => Q1 Z q1 h0 n0 v h L) ({ frames := 0, cells := 0, slots := 0, locals := 0 } : Room).cells ({ frames := 0, cells := 0, slots := 0, locals := 0 } : Room).slots (s₁.setTop (entryFrame m #[(.long q1)] 4))
  refine Goes.st (U' := s₁.setTop (mkF m 0 #[.val (.long q1), .second, .unset, .unset] [])) (fun t k => castTop (ef_rm1 m q1) k) ?_
  refine Goes.st (U' := s₁.setTop (mkF m 1 #[.val (.long q1), .second, .unset, .unset] [(.long q1)])) (fun t k => XS.lloadN X0.here hx rfl (hb hby d1_0) rfl k) ?_
  refine Goes.st (U' := s₁.setTop (mkF m 2 #[.val (.long q1), .second, .val (.long q1), .second] [])) (fun t k => XS.lstoreN X0.here hx rfl (hb hby d1_1) rfl (l' := #[.val (.long q1), .second, .val (.long q1), .second]) rfl k) ?_
  refine Goes.st (U' := s₁.setTop (mkF m 3 #[.val (.long q1), .second, .val (.long q1), .second] [(.long q1)])) (fun t k => XS.lloadN X0.here hx rfl (hb hby d1_2) rfl k) ?_
  refine Goes.st (U' := s₁.setTop (mkF m 6 #[.val (.long q1), .second, .val (.long q1), .second] [(.long (2 : Int64)), (.long q1)])) (fun t k => X0.ldc2Long hx hown (mvT hZ (hw _ (List.mem_of_getElem? (i := 5) rfl))) (g := (mkF m 3 #[.val (.long q1), .second, .val (.long q1), .second] [(.long q1)])) rfl (hb hby d1_3) t k) ?_
  refine Goes.st (U' := s₁.setTop (mkF m 7 #[.val (.long q1), .second, .val (.long q1), .second] [(.long q1), (.long (2 : Int64)), (.long q1)])) (fun t k => XS.lloadN X0.here hx rfl (hb hby d1_6) rfl k) ?_
  refine Goes.st (U' := s₁.setTop (mkF m 8 #[.val (.long q1), .second, .val (.long q1), .second] [(.long q1), (.long q1), (.long (2 : Int64)), (.long q1)])) (fun t k => XS.lloadN X0.here hx rfl (hb hby d1_7) rfl k) ?_
  refine Goes.st (U' := s₁.setTop (mkF m 9 #[.val (.long q1), .second, .val (.long q1), .second] [(.long (q1 * q1)), (.long (2 : Int64)), (.long q1)])) (fun t k => XS.lmul X0.here hx rfl (hb hby d1_8) rfl k) ?_
  refine Goes.st (U' := s₁.setTop (mkF m 10 #[.val (.long q1), .second, .val (.long q1), .second] [(.long ((2 : Int64) - (q1 * q1))), (.long q1)])) (fun t k => XS.lsub X0.here hx rfl (hb hby d1_9) rfl k) ?_
  refine Goes.st (U' := s₁.setTop (mkF m 11 #[.val (.long q1), .second, .val (.long q1), .second] [(.long (q1 * ((2 : Int64) - (q1 * q1))))])) (fun t k => XS.lmul X0.here hx rfl (hb hby d1_10) rfl k) ?_
  refine Goes.st (U' := s₁.setTop (mkF m 12 #[.val (.long q1), .second, .val (.long (q1 * ((2 : Int64) - (q1 * q1)))), .second] [])) (fun t k => XS.lstoreN X0.here hx rfl (hb hby d1_11) rfl (l' := #[.val (.long q1), .second, .val (.long (q1 * ((2 : Int64) - (q1 * q1)))), .second]) rfl k) ?_
  refine Goes.st (U' := s₁.setTop (mkF m 13 #[.val (.long q1), .second, .val (.long (q1 * ((2 : Int64) - (q1 * q1)))), .second] [(.long (q1 * ((2 : Int64) - (q1 * q1))))])) (fun t k => XS.lloadN X0.here hx rfl (hb hby d1_12) rfl k) ?_
  refine Goes.st (U' := s₁.setTop (mkF m 16 #[.val (.long q1), .second, .val (.long (q1 * ((2 : Int64) - (q1 * q1)))), .second] [(.long (2 : Int64)), (.long (q1 * ((2 : Int64) - (q1 * q1))))])) (fun t k => X0.ldc2Long hx hown (mvT hZ (hw _ (List.mem_of_getElem? (i := 5) rfl))) (g := (mkF m 13 #[.val (.long q1), .second, .val (.long (q1 * ((2 : Int64) - (q1 * q1)))), .second] [(.long (q1 * ((2 : Int64) - (q1 * q1))))])) rfl (hb hby d1_13) t k) ?_
  refine Goes.st (U' := s₁.setTop (mkF m 17 #[.val (.long q1), .second, .val (.long (q1 * ((2 : Int64) - (q1 * q1)))), .second] [(.long q1), (.long (2 : Int64)), (.long (q1 * ((2 : Int64) - (q1 * q1))))])) (fun t k => XS.lloadN X0.here hx rfl (hb hby d1_16) rfl k) ?_
  refine Goes.st (U' := s₁.setTop (mkF m 18 #[.val (.long q1), .second, .val (.long (q1 * ((2 : Int64) - (q1 * q1)))), .second] [(.long (q1 * ((2 : Int64) - (q1 * q1)))), (.long q1), (.long (2 : Int64)), (.long (q1 * ((2 : Int64) - (q1 * q1))))])) (fun t k => XS.lloadN X0.here hx rfl (hb hby d1_17) rfl k) ?_
  refine Goes.st (U' := s₁.setTop (mkF m 19 #[.val (.long q1), .second, .val (.long (q1 * ((2 : Int64) - (q1 * q1)))), .second] [(.long (q1 * (q1 * ((2 : Int64) - (q1 * q1))))), (.long (2 : Int64)), (.long (q1 * ((2 : Int64) - (q1 * q1))))])) (fun t k => XS.lmul X0.here hx rfl (hb hby d1_18) rfl k) ?_
  refine Goes.st (U' := s₁.setTop (mkF m 20 #[.val (.long q1), .second, .val (.long (q1 * ((2 : Int64) - (q1 * q1)))), .second] [(.long ((2 : Int64) - (q1 * (q1 * ((2 : Int64) - (q1 * q1)))))), (.long (q1 * ((2 : Int64) - (q1 * q1))))])) (fun t k => XS.lsub X0.here hx rfl (hb hby d1_19) rfl k) ?_
  refine Goes.st (U' := s₁.setTop (mkF m 21 #[.val (.long q1), .second, .val (.long (q1 * ((2 : Int64) - (q1 * q1)))), .second] [(.long ((q1 * ((2 : Int64) - (q1 * q1))) * ((2 : Int64) - (q1 * (q1 * ((2 : Int64) - (q1 * q1)))))))])) (fun t k => XS.lmul X0.here hx rfl (hb hby d1_20) rfl k) ?_
  obtain ⟨v1, hv1⟩ : ∃ z : Int64, z = ((q1 * ((2 : Int64) - (q1 * q1))) * ((2 : Int64) - (q1 * (q1 * ((2 : Int64) - (q1 * q1)))))) := ⟨_, rfl⟩
  refine Goes.st (U' := s₁.setTop (mkF m 22 #[.val (.long q1), .second, .val (.long v1), .second] [])) (fun t k => (by subst hv1; exact XS.lstoreN X0.here hx rfl (hb hby d1_21) rfl (l' := #[.val (.long q1), .second, .val (.long ((q1 * ((2 : Int64) - (q1 * q1))) * ((2 : Int64) - (q1 * (q1 * ((2 : Int64) - (q1 * q1))))))), .second]) rfl k)) ?_
  refine Goes.st (U' := s₁.setTop (mkF m 23 #[.val (.long q1), .second, .val (.long v1), .second] [(.long v1)])) (fun t k => XS.lloadN X0.here hx rfl (hb hby d1_22) rfl k) ?_
  refine Goes.st (U' := s₁.setTop (mkF m 26 #[.val (.long q1), .second, .val (.long v1), .second] [(.long (2 : Int64)), (.long v1)])) (fun t k => X0.ldc2Long hx hown (mvT hZ (hw _ (List.mem_of_getElem? (i := 5) rfl))) (g := (mkF m 23 #[.val (.long q1), .second, .val (.long v1), .second] [(.long v1)])) rfl (hb hby d1_23) t k) ?_
  refine Goes.st (U' := s₁.setTop (mkF m 27 #[.val (.long q1), .second, .val (.long v1), .second] [(.long q1), (.long (2 : Int64)), (.long v1)])) (fun t k => XS.lloadN X0.here hx rfl (hb hby d1_26) rfl k) ?_
  refine Goes.st (U' := s₁.setTop (mkF m 28 #[.val (.long q1), .second, .val (.long v1), .second] [(.long v1), (.long q1), (.long (2 : Int64)), (.long v1)])) (fun t k => XS.lloadN X0.here hx rfl (hb hby d1_27) rfl k) ?_
  refine Goes.st (U' := s₁.setTop (mkF m 29 #[.val (.long q1), .second, .val (.long v1), .second] [(.long (q1 * v1)), (.long (2 : Int64)), (.long v1)])) (fun t k => XS.lmul X0.here hx rfl (hb hby d1_28) rfl k) ?_
  refine Goes.st (U' := s₁.setTop (mkF m 30 #[.val (.long q1), .second, .val (.long v1), .second] [(.long ((2 : Int64) - (q1 * v1))), (.long v1)])) (fun t k => XS.lsub X0.here hx rfl (hb hby d1_29) rfl k) ?_
  refine Goes.st (U' := s₁.setTop (mkF m 31 #[.val (.long q1), .second, .val (.long v1), .second] [(.long (v1 * ((2 : Int64) - (q1 * v1))))])) (fun t k => XS.lmul X0.here hx rfl (hb hby d1_30) rfl k) ?_
  refine Goes.st (U' := s₁.setTop (mkF m 32 #[.val (.long q1), .second, .val (.long (v1 * ((2 : Int64) - (q1 * v1)))), .second] [])) (fun t k => XS.lstoreN X0.here hx rfl (hb hby d1_31) rfl (l' := #[.val (.long q1), .second, .val (.long (v1 * ((2 : Int64) - (q1 * v1)))), .second]) rfl k) ?_
  refine Goes.st (U' := s₁.setTop (mkF m 33 #[.val (.long q1), .second, .val (.long (v1 * ((2 : Int64) - (q1 * v1)))), .second] [(.long (v1 * ((2 : Int64) - (q1 * v1))))])) (fun t k => XS.lloadN X0.here hx rfl (hb hby d1_32) rfl k) ?_
  refine Goes.st (U' := s₁.setTop (mkF m 36 #[.val (.long q1), .second, .val (.long (v1 * ((2 : Int64) - (q1 * v1)))), .second] [(.long (2 : Int64)), (.long (v1 * ((2 : Int64) - (q1 * v1))))])) (fun t k => X0.ldc2Long hx hown (mvT hZ (hw _ (List.mem_of_getElem? (i := 5) rfl))) (g := (mkF m 33 #[.val (.long q1), .second, .val (.long (v1 * ((2 : Int64) - (q1 * v1)))), .second] [(.long (v1 * ((2 : Int64) - (q1 * v1))))])) rfl (hb hby d1_33) t k) ?_
  refine Goes.st (U' := s₁.setTop (mkF m 37 #[.val (.long q1), .second, .val (.long (v1 * ((2 : Int64) - (q1 * v1)))), .second] [(.long q1), (.long (2 : Int64)), (.long (v1 * ((2 : Int64) - (q1 * v1))))])) (fun t k => XS.lloadN X0.here hx rfl (hb hby d1_36) rfl k) ?_
  refine Goes.st (U' := s₁.setTop (mkF m 38 #[.val (.long q1), .second, .val (.long (v1 * ((2 : Int64) - (q1 * v1)))), .second] [(.long (v1 * ((2 : Int64) - (q1 * v1)))), (.long q1), (.long (2 : Int64)), (.long (v1 * ((2 : Int64) - (q1 * v1))))])) (fun t k => XS.lloadN X0.here hx rfl (hb hby d1_37) rfl k) ?_
  refine Goes.st (U' := s₁.setTop (mkF m 39 #[.val (.long q1), .second, .val (.long (v1 * ((2 : Int64) - (q1 * v1)))), .second] [(.long (q1 * (v1 * ((2 : Int64) - (q1 * v1))))), (.long (2 : Int64)), (.long (v1 * ((2 : Int64) - (q1 * v1))))])) (fun t k => XS.lmul X0.here hx rfl (hb hby d1_38) rfl k) ?_
  refine Goes.st (U' := s₁.setTop (mkF m 40 #[.val (.long q1), .second, .val (.long (v1 * ((2 : Int64) - (q1 * v1)))), .second] [(.long ((2 : Int64) - (q1 * (v1 * ((2 : Int64) - (q1 * v1)))))), (.long (v1 * ((2 : Int64) - (q1 * v1))))])) (fun t k => XS.lsub X0.here hx rfl (hb hby d1_39) rfl k) ?_
  refine Goes.st (U' := s₁.setTop (mkF m 41 #[.val (.long q1), .second, .val (.long (v1 * ((2 : Int64) - (q1 * v1)))), .second] [(.long ((v1 * ((2 : Int64) - (q1 * v1))) * ((2 : Int64) - (q1 * (v1 * ((2 : Int64) - (q1 * v1)))))))])) (fun t k => XS.lmul X0.here hx rfl (hb hby d1_40) rfl k) ?_
  obtain ⟨v2, hv2⟩ : ∃ z : Int64, z = ((v1 * ((2 : Int64) - (q1 * v1))) * ((2 : Int64) - (q1 * (v1 * ((2 : Int64) - (q1 * v1)))))) := ⟨_, rfl⟩
  refine Goes.st (U' := s₁.setTop (mkF m 42 #[.val (.long q1), .second, .val (.long v2), .second] [])) (fun t k => (by subst hv2; exact XS.lstoreN X0.here hx rfl (hb hby d1_41) rfl (l' := #[.val (.long q1), .second, .val (.long ((v1 * ((2 : Int64) - (q1 * v1))) * ((2 : Int64) - (q1 * (v1 * ((2 : Int64) - (q1 * v1))))))), .second]) rfl k)) ?_
  refine Goes.st (U' := s₁.setTop (mkF m 43 #[.val (.long q1), .second, .val (.long v2), .second] [(.long v2)])) (fun t k => XS.lloadN X0.here hx rfl (hb hby d1_42) rfl k) ?_
  refine Goes.st (U' := s₁.setTop (mkF m 46 #[.val (.long q1), .second, .val (.long v2), .second] [(.long (2 : Int64)), (.long v2)])) (fun t k => X0.ldc2Long hx hown (mvT hZ (hw _ (List.mem_of_getElem? (i := 5) rfl))) (g := (mkF m 43 #[.val (.long q1), .second, .val (.long v2), .second] [(.long v2)])) rfl (hb hby d1_43) t k) ?_
  refine Goes.st (U' := s₁.setTop (mkF m 47 #[.val (.long q1), .second, .val (.long v2), .second] [(.long q1), (.long (2 : Int64)), (.long v2)])) (fun t k => XS.lloadN X0.here hx rfl (hb hby d1_46) rfl k) ?_
  refine Goes.st (U' := s₁.setTop (mkF m 48 #[.val (.long q1), .second, .val (.long v2), .second] [(.long v2), (.long q1), (.long (2 : Int64)), (.long v2)])) (fun t k => XS.lloadN X0.here hx rfl (hb hby d1_47) rfl k) ?_
  refine Goes.st (U' := s₁.setTop (mkF m 49 #[.val (.long q1), .second, .val (.long v2), .second] [(.long (q1 * v2)), (.long (2 : Int64)), (.long v2)])) (fun t k => XS.lmul X0.here hx rfl (hb hby d1_48) rfl k) ?_
  refine Goes.st (U' := s₁.setTop (mkF m 50 #[.val (.long q1), .second, .val (.long v2), .second] [(.long ((2 : Int64) - (q1 * v2))), (.long v2)])) (fun t k => XS.lsub X0.here hx rfl (hb hby d1_49) rfl k) ?_
  refine Goes.st (U' := s₁.setTop (mkF m 51 #[.val (.long q1), .second, .val (.long v2), .second] [(.long (v2 * ((2 : Int64) - (q1 * v2))))])) (fun t k => XS.lmul X0.here hx rfl (hb hby d1_50) rfl k) ?_
  refine Goes.st (U' := s₁.setTop (mkF m 52 #[.val (.long q1), .second, .val (.long (v2 * ((2 : Int64) - (q1 * v2)))), .second] [])) (fun t k => XS.lstoreN X0.here hx rfl (hb hby d1_51) rfl (l' := #[.val (.long q1), .second, .val (.long (v2 * ((2 : Int64) - (q1 * v2)))), .second]) rfl k) ?_
  refine Goes.st (U' := s₁.setTop (mkF m 53 #[.val (.long q1), .second, .val (.long (v2 * ((2 : Int64) - (q1 * v2)))), .second] [(.long (v2 * ((2 : Int64) - (q1 * v2))))])) (fun t k => XS.lloadN X0.here hx rfl (hb hby d1_52) rfl k) ?_
  refine Goes.retJ X0 hx (BodyLoose.notSynchronized Bd) Bd.returns (hb hby d1_53) (by decide) (by decide) ?_
  show Q1 Z q1 h0 n0 _ s₁.heap _
  rw [e0]
  exact ⟨(by subst hv2; subst hv1; rfl), N0, rfl⟩
theorem d2_0 : decode prog_62_method_1_code 0 = .ok (.aload_n 0, 1) := by decide +kernel
theorem d2_1 : decode prog_62_method_1_code 1 = .ok (.invokespecial 1, 3) := by decide +kernel
theorem d2_4 : decode prog_62_method_1_code 4 = .ok (.aload_n 0, 1) := by decide +kernel
theorem d2_5 : decode prog_62_method_1_code 5 = .ok (.lload_n 1, 1) := by decide +kernel
theorem d2_6 : decode prog_62_method_1_code 6 = .ok (.putfield 7, 3) := by decide +kernel
theorem d2_9 : decode prog_62_method_1_code 9 = .ok (.return_, 1) := by decide +kernel
theorem pn_1 : plainName "com/example/spreadbook/spreadbook/io/SplitMix64" = true := by first | (simp [plainName, overriddenIn]; done) | decide +kernel
theorem ef_rm2 (m : MethodId) (a1 : Addr) (q2 : Int64) : entryFrame m #[(.ref a1), (.long q2)] 3 = mkF m 0 #[.val (.ref a1), .val (.long q2), .second] [] := by first | (simp [entryFrame, mkF, argsToLocals, Value.category]; done) | rfl
def Q2 (Z : State) (a1 : Addr) (q2 : Int64) (h0 : Heap) (n0 : Nat) (v : Option Value) (h : Heap) (L : List Loc) : Prop := v = none ∧ Fr n0 L ∧ Keep h0 h [a1] ∧ Exa Z h a1 "com/example/spreadbook/spreadbook/io/SplitMix64" ∧ Fld Z h a1 "com/example/spreadbook/spreadbook/io/SplitMix64" "state" "J" (.long q2)
set_option maxRecDepth 65536 in
set_option maxHeartbeats 40000000 in
theorem rm2 (l : Launch) (Z : State) (a0 : Array Value) (hw : ∀ d ∈ tables_1, d.before a0 Z = true) (ws : List Jvm.Cond) (a1 : Addr) (q2 : Int64) (h0 : Heap) (n0 : Nat) (Z0 : n0 ≤ h0.size) (E_a1 : Exa Z h0 a1 "com/example/spreadbook/spreadbook/io/SplitMix64") (F_state_a1 : Fld Z h0 a1 "com/example/spreadbook/spreadbook/io/SplitMix64" "state" "J" (.long (0 : Int64))) (g_a1 : n0 ≤ a1) :
    MetFree l (⟨"com/example/spreadbook/spreadbook/io/SplitMix64", "<init>", "(J)V"⟩ : MethodName) (head1 (Jvm.Cond.code (⟨"com/example/spreadbook/spreadbook/io/SplitMix64", "<init>", "(J)V"⟩ : MethodName) prog_62_method_1_code 3 none :: ws) ({ frames := 1, cells := 0, slots := 0, locals := 12 } : Room)) (fun a U => a = #[(.ref a1), (.long q2)] ∧ Z.Warmed39 U.vm ∧ U.heap = h0) (fun _ _ _ _ _ => True) (fun _ U o U' => ∃ v L, o = .returned v ∧ Q2 Z a1 q2 h0 n0 v U'.heap L ∧ FrameEnd U o U' L ({ frames := 1, cells := 0, slots := 0, locals := 12 } : Room).cells ({ frames := 1, cells := 0, slots := 0, locals := 12 } : Room).slots) := by
  refine MetFree.of_bodySF (plainFor_of_name pn_1) hisR ?_
  intro p e s m args below meth c s₁ Bd hml0 hP hK
  obtain ⟨rfl, hZ, hh⟩ := hP
  have hx := Bd.exec
  have hby := Bd.bytes
  have hml : c.maxLocals = 3 := hml0
  have hown : s.vm.findClass "com/example/spreadbook/spreadbook/io/SplitMix64" = some m.cls := findClass_of_methodNamed Bd.named
  have hnm := (name_of_methodNamed Bd.named Bd.method).1
  have X0 : Stand p l e ({ frames := 1, cells := 0, slots := 0, locals := 12 } : Room) s m #[(.ref a1), (.long q2)] below meth c s₁ [] 0 0 := Stand.of_body Bd
  have e0 : s₁.heap = h0 := by rw [← hh, Bd.state]; rfl
  have N0 := Fr.nil n0
  show Goes p e s below (fun v h L => Q2 Z a1 q2 h0 n0 v h L) ({ frames := 1, cells := 0, slots := 0, locals := 12 } : Room).cells ({ frames := 1, cells := 0, slots := 0, locals := 12 } : Room).slots (s₁.setTop (entryFrame m #[(.ref a1), (.long q2)] 3))
  refine Goes.st (U' := s₁.setTop (mkF m 0 #[.val (.ref a1), .val (.long q2), .second] [])) (fun t k => castTop (ef_rm2 m a1 q2) k) ?_
  refine Goes.st (U' := s₁.setTop (mkF m 1 #[.val (.ref a1), .val (.long q2), .second] [(.ref a1)])) (fun t k => XS.aloadN X0.here hx rfl (hb hby d2_0) rfl rfl k) ?_
  obtain ⟨T1, X1, e1, st1⟩ := initO X0 hx hZ hown (hw _ (List.mem_of_getElem? (i := 13) rfl)) (hw _ (List.mem_of_getElem? (i := 14) rfl)) (hw _ (List.mem_of_getElem? (i := 15) rfl)) e0 (g := (mkF m 1 #[.val (.ref a1), .val (.long q2), .second] [(.ref a1)])) rfl (by rw [hml]; rfl) rfl (hb hby d2_1) (by decide) (W := 0) (by show 2 * 0 + _ ≤ _; exact Nat.le_of_eq rfl) (by decide)
  refine Goes.st (U' := T1.setTop (mkF m 4 #[.val (.ref a1), .val (.long q2), .second] [])) (fun t k => st1 t k) ?_
  refine Goes.st (U' := T1.setTop (mkF m 5 #[.val (.ref a1), .val (.long q2), .second] [(.ref a1)])) (fun t k => XS.aloadN X1.here hx rfl (hb hby d2_4) rfl rfl k) ?_
  refine Goes.st (U' := T1.setTop (mkF m 6 #[.val (.ref a1), .val (.long q2), .second] [(.long q2), (.ref a1)])) (fun t k => XS.lloadN X1.here hx rfl (hb hby d2_5) rfl k) ?_
  obtain ⟨T2, h2, X2, e2, W2, st2⟩ := putF X1 hx hZ hown (host := "") (Or.inl (hw _ (List.mem_of_getElem? (i := 16) rfl))) Via.refl e1 F_state_a1 E_a1 (Or.inl (hw _ (List.mem_of_getElem? (i := 17) rfl))) (hw _ (List.mem_of_getElem? (i := 8) rfl)) (ty := .long) (by decide) rfl rfl (g := (mkF m 6 #[.val (.ref a1), .val (.long q2), .second] [(.long q2), (.ref a1)])) rfl rfl (hb hby d2_6)
  have Fw2 := F_state_a1.same W2
  have N2 := Fr.snoc X2 N0 g_a1
  have K_3 : Keep h0 h2 [a1] := (Keep.refl h0 [a1]).wr W2 (Or.inl (List.mem_of_getElem? (i := 0) rfl))
  refine Goes.st (U' := T2.setTop (mkF m 9 #[.val (.ref a1), .val (.long q2), .second] [])) (fun t k => st2 t k) ?_
  refine Goes.retV X2 hx (BodyLoose.notSynchronized Bd) Bd.returns (hb hby d2_9) (by decide) (by decide) ?_
  show Q2 Z a1 q2 h0 n0 _ T2.heap _
  rw [e2]
  exact ⟨rfl, N2, K_3, (E_a1.wr W2), Fw2⟩
theorem d4_0 : decode prog_62_method_2_code 0 = .ok (.aload_n 0, 1) := by decide +kernel
theorem d4_1 : decode prog_62_method_2_code 1 = .ok (.dup, 1) := by decide +kernel
theorem d4_2 : decode prog_62_method_2_code 2 = .ok (.getfield 7, 3) := by decide +kernel
theorem d4_5 : decode prog_62_method_2_code 5 = .ok (.ldc2_w 13, 3) := by decide +kernel
theorem d4_8 : decode prog_62_method_2_code 8 = .ok (.ladd, 1) := by decide +kernel
theorem d4_9 : decode prog_62_method_2_code 9 = .ok (.putfield 7, 3) := by decide +kernel
theorem d4_12 : decode prog_62_method_2_code 12 = .ok (.aload_n 0, 1) := by decide +kernel
theorem d4_13 : decode prog_62_method_2_code 13 = .ok (.getfield 7, 3) := by decide +kernel
theorem d4_16 : decode prog_62_method_2_code 16 = .ok (.lstore_n 1, 1) := by decide +kernel
theorem d4_17 : decode prog_62_method_2_code 17 = .ok (.lload_n 1, 1) := by decide +kernel
theorem d4_18 : decode prog_62_method_2_code 18 = .ok (.lload_n 1, 1) := by decide +kernel
theorem d4_19 : decode prog_62_method_2_code 19 = .ok (.bipush 30, 2) := by decide +kernel
theorem d4_21 : decode prog_62_method_2_code 21 = .ok (.lushr, 1) := by decide +kernel
theorem d4_22 : decode prog_62_method_2_code 22 = .ok (.lxor, 1) := by decide +kernel
theorem d4_23 : decode prog_62_method_2_code 23 = .ok (.ldc2_w 15, 3) := by decide +kernel
theorem d4_26 : decode prog_62_method_2_code 26 = .ok (.lmul, 1) := by decide +kernel
theorem d4_27 : decode prog_62_method_2_code 27 = .ok (.lstore_n 1, 1) := by decide +kernel
theorem d4_28 : decode prog_62_method_2_code 28 = .ok (.lload_n 1, 1) := by decide +kernel
theorem d4_29 : decode prog_62_method_2_code 29 = .ok (.lload_n 1, 1) := by decide +kernel
theorem d4_30 : decode prog_62_method_2_code 30 = .ok (.bipush 27, 2) := by decide +kernel
theorem d4_32 : decode prog_62_method_2_code 32 = .ok (.lushr, 1) := by decide +kernel
theorem d4_33 : decode prog_62_method_2_code 33 = .ok (.lxor, 1) := by decide +kernel
theorem d4_34 : decode prog_62_method_2_code 34 = .ok (.ldc2_w 17, 3) := by decide +kernel
theorem d4_37 : decode prog_62_method_2_code 37 = .ok (.lmul, 1) := by decide +kernel
theorem d4_38 : decode prog_62_method_2_code 38 = .ok (.lstore_n 1, 1) := by decide +kernel
theorem d4_39 : decode prog_62_method_2_code 39 = .ok (.lload_n 1, 1) := by decide +kernel
theorem d4_40 : decode prog_62_method_2_code 40 = .ok (.lload_n 1, 1) := by decide +kernel
theorem d4_41 : decode prog_62_method_2_code 41 = .ok (.bipush 31, 2) := by decide +kernel
theorem d4_43 : decode prog_62_method_2_code 43 = .ok (.lushr, 1) := by decide +kernel
theorem d4_44 : decode prog_62_method_2_code 44 = .ok (.lxor, 1) := by decide +kernel
theorem d4_45 : decode prog_62_method_2_code 45 = .ok (.lreturn, 1) := by decide +kernel
theorem ef_rm4 (m : MethodId) (a1 : Addr) : entryFrame m #[(.ref a1)] 3 = mkF m 0 #[.val (.ref a1), .unset, .unset] [] := by first | (simp [entryFrame, mkF, argsToLocals, Value.category]; done) | rfl
def fn4 (w : Int64) : Int64 := (let v5 : Int64 := (((w + (-7046029254386353131 : Int64)) ^^^ (((w + (-7046029254386353131 : Int64)).toUInt64 >>> ((30 : Int32) &&& 0x3f).toInt64.toUInt64).toInt64)) * (-4658895280553007687 : Int64)); (let v6 : Int64 := ((v5 ^^^ ((v5.toUInt64 >>> ((27 : Int32) &&& 0x3f).toInt64.toUInt64).toInt64)) * (-7723592293110705685 : Int64)); (v6 ^^^ ((v6.toUInt64 >>> ((31 : Int32) &&& 0x3f).toInt64.toUInt64).toInt64))))
def Q4 (Z : State) (a1 : Addr) (w : Int64) (h0 : Heap) (n0 : Nat) (v : Option Value) (h : Heap) (L : List Loc) : Prop := v = some (.long (fn4 w)) ∧ Fr n0 L ∧ Keep h0 h [a1] ∧ Exa Z h a1 "com/example/spreadbook/spreadbook/io/SplitMix64" ∧ Fld Z h a1 "com/example/spreadbook/spreadbook/io/SplitMix64" "state" "J" (.long (w + (-7046029254386353131 : Int64)))
set_option maxRecDepth 65536 in
set_option maxHeartbeats 40000000 in
theorem rm4 (l : Launch) (Z : State) (a0 : Array Value) (hw : ∀ d ∈ tables_1, d.before a0 Z = true) (ws : List Jvm.Cond) (a1 : Addr) (w : Int64) (h0 : Heap) (n0 : Nat) (Z0 : n0 ≤ h0.size) (E_a1 : Exa Z h0 a1 "com/example/spreadbook/spreadbook/io/SplitMix64") (F_state_a1 : Fld Z h0 a1 "com/example/spreadbook/spreadbook/io/SplitMix64" "state" "J" (.long w)) (g_a1 : n0 ≤ a1) :
    MetFree l (⟨"com/example/spreadbook/spreadbook/io/SplitMix64", "next", "()J"⟩ : MethodName) (head1 (Jvm.Cond.code (⟨"com/example/spreadbook/spreadbook/io/SplitMix64", "next", "()J"⟩ : MethodName) prog_62_method_2_code 3 (some .long) :: ws) ({ frames := 0, cells := 0, slots := 0, locals := 0 } : Room)) (fun a U => a = #[(.ref a1)] ∧ Z.Warmed39 U.vm ∧ U.heap = h0) (fun _ _ _ _ _ => True) (fun _ U o U' => ∃ v L, o = .returned v ∧ Q4 Z a1 w h0 n0 v U'.heap L ∧ FrameEnd U o U' L ({ frames := 0, cells := 0, slots := 0, locals := 0 } : Room).cells ({ frames := 0, cells := 0, slots := 0, locals := 0 } : Room).slots) := by
  refine MetFree.of_bodySF (plainFor_of_name pn_1) hisR ?_
  intro p e s m args below meth c s₁ Bd hml0 hP hK
  obtain ⟨rfl, hZ, hh⟩ := hP
  have hx := Bd.exec
  have hby := Bd.bytes
  have hml : c.maxLocals = 3 := hml0
  have hown : s.vm.findClass "com/example/spreadbook/spreadbook/io/SplitMix64" = some m.cls := findClass_of_methodNamed Bd.named
  have hnm := (name_of_methodNamed Bd.named Bd.method).1
  have X0 : Stand p l e ({ frames := 0, cells := 0, slots := 0, locals := 0 } : Room) s m #[(.ref a1)] below meth c s₁ [] 0 0 := Stand.of_body Bd
  have e0 : s₁.heap = h0 := by rw [← hh, Bd.state]; rfl
  have N0 := Fr.nil n0
  show Goes p e s below (fun v h L => Q4 Z a1 w h0 n0 v h L) ({ frames := 0, cells := 0, slots := 0, locals := 0 } : Room).cells ({ frames := 0, cells := 0, slots := 0, locals := 0 } : Room).slots (s₁.setTop (entryFrame m #[(.ref a1)] 3))
  refine Goes.st (U' := s₁.setTop (mkF m 0 #[.val (.ref a1), .unset, .unset] [])) (fun t k => castTop (ef_rm4 m a1) k) ?_
  refine Goes.st (U' := s₁.setTop (mkF m 1 #[.val (.ref a1), .unset, .unset] [(.ref a1)])) (fun t k => XS.aloadN X0.here hx rfl (hb hby d4_0) rfl rfl k) ?_
  refine Goes.st (U' := s₁.setTop (mkF m 2 #[.val (.ref a1), .unset, .unset] [(.ref a1), (.ref a1)])) (fun t k => XS.dup X0.here hx rfl (hb hby d4_1) rfl rfl k) ?_
  obtain ⟨T1, X1, e1, st1⟩ := getF X0 hx hZ hown (host := "") (Or.inl (hw _ (List.mem_of_getElem? (i := 16) rfl))) Via.refl e0 F_state_a1 (g := (mkF m 2 #[.val (.ref a1), .unset, .unset] [(.ref a1), (.ref a1)])) rfl rfl (hb hby d4_2)
  refine Goes.st (U' := T1.setTop (mkF m 5 #[.val (.ref a1), .unset, .unset] [(.long w), (.ref a1)])) (fun t k => st1 t k) ?_
  refine Goes.st (U' := T1.setTop (mkF m 8 #[.val (.ref a1), .unset, .unset] [(.long (-7046029254386353131 : Int64)), (.long w), (.ref a1)])) (fun t k => X1.ldc2Long hx hown (mvT hZ (hw _ (List.mem_of_getElem? (i := 23) rfl))) (g := (mkF m 5 #[.val (.ref a1), .unset, .unset] [(.long w), (.ref a1)])) rfl (hb hby d4_5) t k) ?_
  refine Goes.st (U' := T1.setTop (mkF m 9 #[.val (.ref a1), .unset, .unset] [(.long (w + (-7046029254386353131 : Int64))), (.ref a1)])) (fun t k => XS.ladd X1.here hx rfl (hb hby d4_8) rfl k) ?_
  obtain ⟨T2, h2, X2, e2, W2, st2⟩ := putF X1 hx hZ hown (host := "") (Or.inl (hw _ (List.mem_of_getElem? (i := 16) rfl))) Via.refl e1 F_state_a1 E_a1 (Or.inl (hw _ (List.mem_of_getElem? (i := 17) rfl))) (hw _ (List.mem_of_getElem? (i := 8) rfl)) (ty := .long) (by decide) rfl rfl (g := (mkF m 9 #[.val (.ref a1), .unset, .unset] [(.long (w + (-7046029254386353131 : Int64))), (.ref a1)])) rfl rfl (hb hby d4_9)
  have Fw2 := F_state_a1.same W2
  have N2 := Fr.snoc X2 N0 g_a1
  have K_3 : Keep h0 h2 [a1] := (Keep.refl h0 [a1]).wr W2 (Or.inl (List.mem_of_getElem? (i := 0) rfl))
  refine Goes.st (U' := T2.setTop (mkF m 12 #[.val (.ref a1), .unset, .unset] [])) (fun t k => st2 t k) ?_
  refine Goes.st (U' := T2.setTop (mkF m 13 #[.val (.ref a1), .unset, .unset] [(.ref a1)])) (fun t k => XS.aloadN X2.here hx rfl (hb hby d4_12) rfl rfl k) ?_
  obtain ⟨T4, X4, e4, st4⟩ := getF X2 hx hZ hown (host := "") (Or.inl (hw _ (List.mem_of_getElem? (i := 16) rfl))) Via.refl e2 Fw2 (g := (mkF m 13 #[.val (.ref a1), .unset, .unset] [(.ref a1)])) rfl rfl (hb hby d4_13)
  refine Goes.st (U' := T4.setTop (mkF m 16 #[.val (.ref a1), .unset, .unset] [(.long (w + (-7046029254386353131 : Int64)))])) (fun t k => st4 t k) ?_
  refine Goes.st (U' := T4.setTop (mkF m 17 #[.val (.ref a1), .val (.long (w + (-7046029254386353131 : Int64))), .second] [])) (fun t k => XS.lstoreN X4.here hx rfl (hb hby d4_16) rfl (l' := #[.val (.ref a1), .val (.long (w + (-7046029254386353131 : Int64))), .second]) rfl k) ?_
  refine Goes.st (U' := T4.setTop (mkF m 18 #[.val (.ref a1), .val (.long (w + (-7046029254386353131 : Int64))), .second] [(.long (w + (-7046029254386353131 : Int64)))])) (fun t k => XS.lloadN X4.here hx rfl (hb hby d4_17) rfl k) ?_
  refine Goes.st (U' := T4.setTop (mkF m 19 #[.val (.ref a1), .val (.long (w + (-7046029254386353131 : Int64))), .second] [(.long (w + (-7046029254386353131 : Int64))), (.long (w + (-7046029254386353131 : Int64)))])) (fun t k => XS.lloadN X4.here hx rfl (hb hby d4_18) rfl k) ?_
  refine Goes.st (U' := T4.setTop (mkF m 21 #[.val (.ref a1), .val (.long (w + (-7046029254386353131 : Int64))), .second] [(.int (30 : Int32)), (.long (w + (-7046029254386353131 : Int64))), (.long (w + (-7046029254386353131 : Int64)))])) (fun t k => XS.bipush X4.here hx rfl (hb hby d4_19) k) ?_
  refine Goes.st (U' := T4.setTop (mkF m 22 #[.val (.ref a1), .val (.long (w + (-7046029254386353131 : Int64))), .second] [(.long (((w + (-7046029254386353131 : Int64)).toUInt64 >>> ((30 : Int32) &&& 0x3f).toInt64.toUInt64).toInt64)), (.long (w + (-7046029254386353131 : Int64)))])) (fun t k => XS.lushr X4.here hx rfl (hb hby d4_21) rfl k) ?_
  refine Goes.st (U' := T4.setTop (mkF m 23 #[.val (.ref a1), .val (.long (w + (-7046029254386353131 : Int64))), .second] [(.long ((w + (-7046029254386353131 : Int64)) ^^^ (((w + (-7046029254386353131 : Int64)).toUInt64 >>> ((30 : Int32) &&& 0x3f).toInt64.toUInt64).toInt64)))])) (fun t k => XS.lxor X4.here hx rfl (hb hby d4_22) rfl k) ?_
  refine Goes.st (U' := T4.setTop (mkF m 26 #[.val (.ref a1), .val (.long (w + (-7046029254386353131 : Int64))), .second] [(.long (-4658895280553007687 : Int64)), (.long ((w + (-7046029254386353131 : Int64)) ^^^ (((w + (-7046029254386353131 : Int64)).toUInt64 >>> ((30 : Int32) &&& 0x3f).toInt64.toUInt64).toInt64)))])) (fun t k => X4.ldc2Long hx hown (mvT hZ (hw _ (List.mem_of_getElem? (i := 24) rfl))) (g := (mkF m 23 #[.val (.ref a1), .val (.long (w + (-7046029254386353131 : Int64))), .second] [(.long ((w + (-7046029254386353131 : Int64)) ^^^ (((w + (-7046029254386353131 : Int64)).toUInt64 >>> ((30 : Int32) &&& 0x3f).toInt64.toUInt64).toInt64)))])) rfl (hb hby d4_23) t k) ?_
  refine Goes.st (U' := T4.setTop (mkF m 27 #[.val (.ref a1), .val (.long (w + (-7046029254386353131 : Int64))), .second] [(.long (((w + (-7046029254386353131 : Int64)) ^^^ (((w + (-7046029254386353131 : Int64)).toUInt64 >>> ((30 : Int32) &&& 0x3f).toInt64.toUInt64).toInt64)) * (-4658895280553007687 : Int64)))])) (fun t k => XS.lmul X4.here hx rfl (hb hby d4_26) rfl k) ?_
  obtain ⟨v5, hv5⟩ : ∃ z : Int64, z = (((w + (-7046029254386353131 : Int64)) ^^^ (((w + (-7046029254386353131 : Int64)).toUInt64 >>> ((30 : Int32) &&& 0x3f).toInt64.toUInt64).toInt64)) * (-4658895280553007687 : Int64)) := ⟨_, rfl⟩
  refine Goes.st (U' := T4.setTop (mkF m 28 #[.val (.ref a1), .val (.long v5), .second] [])) (fun t k => (by subst hv5; exact XS.lstoreN X4.here hx rfl (hb hby d4_27) rfl (l' := #[.val (.ref a1), .val (.long (((w + (-7046029254386353131 : Int64)) ^^^ (((w + (-7046029254386353131 : Int64)).toUInt64 >>> ((30 : Int32) &&& 0x3f).toInt64.toUInt64).toInt64)) * (-4658895280553007687 : Int64))), .second]) rfl k)) ?_
  refine Goes.st (U' := T4.setTop (mkF m 29 #[.val (.ref a1), .val (.long v5), .second] [(.long v5)])) (fun t k => XS.lloadN X4.here hx rfl (hb hby d4_28) rfl k) ?_
  refine Goes.st (U' := T4.setTop (mkF m 30 #[.val (.ref a1), .val (.long v5), .second] [(.long v5), (.long v5)])) (fun t k => XS.lloadN X4.here hx rfl (hb hby d4_29) rfl k) ?_
  refine Goes.st (U' := T4.setTop (mkF m 32 #[.val (.ref a1), .val (.long v5), .second] [(.int (27 : Int32)), (.long v5), (.long v5)])) (fun t k => XS.bipush X4.here hx rfl (hb hby d4_30) k) ?_
  refine Goes.st (U' := T4.setTop (mkF m 33 #[.val (.ref a1), .val (.long v5), .second] [(.long ((v5.toUInt64 >>> ((27 : Int32) &&& 0x3f).toInt64.toUInt64).toInt64)), (.long v5)])) (fun t k => XS.lushr X4.here hx rfl (hb hby d4_32) rfl k) ?_
  refine Goes.st (U' := T4.setTop (mkF m 34 #[.val (.ref a1), .val (.long v5), .second] [(.long (v5 ^^^ ((v5.toUInt64 >>> ((27 : Int32) &&& 0x3f).toInt64.toUInt64).toInt64)))])) (fun t k => XS.lxor X4.here hx rfl (hb hby d4_33) rfl k) ?_
  refine Goes.st (U' := T4.setTop (mkF m 37 #[.val (.ref a1), .val (.long v5), .second] [(.long (-7723592293110705685 : Int64)), (.long (v5 ^^^ ((v5.toUInt64 >>> ((27 : Int32) &&& 0x3f).toInt64.toUInt64).toInt64)))])) (fun t k => X4.ldc2Long hx hown (mvT hZ (hw _ (List.mem_of_getElem? (i := 25) rfl))) (g := (mkF m 34 #[.val (.ref a1), .val (.long v5), .second] [(.long (v5 ^^^ ((v5.toUInt64 >>> ((27 : Int32) &&& 0x3f).toInt64.toUInt64).toInt64)))])) rfl (hb hby d4_34) t k) ?_
  refine Goes.st (U' := T4.setTop (mkF m 38 #[.val (.ref a1), .val (.long v5), .second] [(.long ((v5 ^^^ ((v5.toUInt64 >>> ((27 : Int32) &&& 0x3f).toInt64.toUInt64).toInt64)) * (-7723592293110705685 : Int64)))])) (fun t k => XS.lmul X4.here hx rfl (hb hby d4_37) rfl k) ?_
  obtain ⟨v6, hv6⟩ : ∃ z : Int64, z = ((v5 ^^^ ((v5.toUInt64 >>> ((27 : Int32) &&& 0x3f).toInt64.toUInt64).toInt64)) * (-7723592293110705685 : Int64)) := ⟨_, rfl⟩
  refine Goes.st (U' := T4.setTop (mkF m 39 #[.val (.ref a1), .val (.long v6), .second] [])) (fun t k => (by subst hv6; exact XS.lstoreN X4.here hx rfl (hb hby d4_38) rfl (l' := #[.val (.ref a1), .val (.long ((v5 ^^^ ((v5.toUInt64 >>> ((27 : Int32) &&& 0x3f).toInt64.toUInt64).toInt64)) * (-7723592293110705685 : Int64))), .second]) rfl k)) ?_
  refine Goes.st (U' := T4.setTop (mkF m 40 #[.val (.ref a1), .val (.long v6), .second] [(.long v6)])) (fun t k => XS.lloadN X4.here hx rfl (hb hby d4_39) rfl k) ?_
  refine Goes.st (U' := T4.setTop (mkF m 41 #[.val (.ref a1), .val (.long v6), .second] [(.long v6), (.long v6)])) (fun t k => XS.lloadN X4.here hx rfl (hb hby d4_40) rfl k) ?_
  refine Goes.st (U' := T4.setTop (mkF m 43 #[.val (.ref a1), .val (.long v6), .second] [(.int (31 : Int32)), (.long v6), (.long v6)])) (fun t k => XS.bipush X4.here hx rfl (hb hby d4_41) k) ?_
  refine Goes.st (U' := T4.setTop (mkF m 44 #[.val (.ref a1), .val (.long v6), .second] [(.long ((v6.toUInt64 >>> ((31 : Int32) &&& 0x3f).toInt64.toUInt64).toInt64)), (.long v6)])) (fun t k => XS.lushr X4.here hx rfl (hb hby d4_43) rfl k) ?_
  refine Goes.st (U' := T4.setTop (mkF m 45 #[.val (.ref a1), .val (.long v6), .second] [(.long (v6 ^^^ ((v6.toUInt64 >>> ((31 : Int32) &&& 0x3f).toInt64.toUInt64).toInt64)))])) (fun t k => XS.lxor X4.here hx rfl (hb hby d4_44) rfl k) ?_
  refine Goes.retJ X4 hx (BodyLoose.notSynchronized Bd) Bd.returns (hb hby d4_45) (by decide) (by decide) ?_
  show Q4 Z a1 w h0 n0 _ T4.heap _
  rw [e4]
  exact ⟨(by subst hv6; subst hv5; rfl), N2, K_3, (E_a1.wr W2), Fw2⟩
theorem d5_0 : decode method_3_code 0 = .ok (.lload_n 0, 1) := by decide +kernel
theorem d5_1 : decode method_3_code 1 = .ok (.lload_n 0, 1) := by decide +kernel
theorem d5_2 : decode method_3_code 2 = .ok (.bipush 31, 2) := by decide +kernel
theorem d5_4 : decode method_3_code 4 = .ok (.lushr, 1) := by decide +kernel
theorem d5_5 : decode method_3_code 5 = .ok (.lxor, 1) := by decide +kernel
theorem d5_6 : decode method_3_code 6 = .ok (.lload_n 0, 1) := by decide +kernel
theorem d5_7 : decode method_3_code 7 = .ok (.bipush 62, 2) := by decide +kernel
theorem d5_9 : decode method_3_code 9 = .ok (.lushr, 1) := by decide +kernel
theorem d5_10 : decode method_3_code 10 = .ok (.lxor, 1) := by decide +kernel
theorem d5_11 : decode method_3_code 11 = .ok (.lstore_n 2, 1) := by decide +kernel
theorem d5_12 : decode method_3_code 12 = .ok (.lload_n 2, 1) := by decide +kernel
theorem d5_13 : decode method_3_code 13 = .ok (.ldc2_w 11, 3) := by decide +kernel
theorem d5_16 : decode method_3_code 16 = .ok (.invokestatic 13, 3) := by decide +kernel
theorem d5_19 : decode method_3_code 19 = .ok (.lmul, 1) := by decide +kernel
theorem d5_20 : decode method_3_code 20 = .ok (.lstore_n 2, 1) := by decide +kernel
theorem d5_21 : decode method_3_code 21 = .ok (.lload_n 2, 1) := by decide +kernel
theorem d5_22 : decode method_3_code 22 = .ok (.lload_n 2, 1) := by decide +kernel
theorem d5_23 : decode method_3_code 23 = .ok (.bipush 27, 2) := by decide +kernel
theorem d5_25 : decode method_3_code 25 = .ok (.lushr, 1) := by decide +kernel
theorem d5_26 : decode method_3_code 26 = .ok (.lxor, 1) := by decide +kernel
theorem d5_27 : decode method_3_code 27 = .ok (.lload_n 2, 1) := by decide +kernel
theorem d5_28 : decode method_3_code 28 = .ok (.bipush 54, 2) := by decide +kernel
theorem d5_30 : decode method_3_code 30 = .ok (.lushr, 1) := by decide +kernel
theorem d5_31 : decode method_3_code 31 = .ok (.lxor, 1) := by decide +kernel
theorem d5_32 : decode method_3_code 32 = .ok (.lstore_n 2, 1) := by decide +kernel
theorem d5_33 : decode method_3_code 33 = .ok (.lload_n 2, 1) := by decide +kernel
theorem d5_34 : decode method_3_code 34 = .ok (.ldc2_w 17, 3) := by decide +kernel
theorem d5_37 : decode method_3_code 37 = .ok (.invokestatic 13, 3) := by decide +kernel
theorem d5_40 : decode method_3_code 40 = .ok (.lmul, 1) := by decide +kernel
theorem d5_41 : decode method_3_code 41 = .ok (.lstore_n 2, 1) := by decide +kernel
theorem d5_42 : decode method_3_code 42 = .ok (.lload_n 2, 1) := by decide +kernel
theorem d5_43 : decode method_3_code 43 = .ok (.lload_n 2, 1) := by decide +kernel
theorem d5_44 : decode method_3_code 44 = .ok (.bipush 30, 2) := by decide +kernel
theorem d5_46 : decode method_3_code 46 = .ok (.lushr, 1) := by decide +kernel
theorem d5_47 : decode method_3_code 47 = .ok (.lxor, 1) := by decide +kernel
theorem d5_48 : decode method_3_code 48 = .ok (.lload_n 2, 1) := by decide +kernel
theorem d5_49 : decode method_3_code 49 = .ok (.bipush 60, 2) := by decide +kernel
theorem d5_51 : decode method_3_code 51 = .ok (.lushr, 1) := by decide +kernel
theorem d5_52 : decode method_3_code 52 = .ok (.lxor, 1) := by decide +kernel
theorem d5_53 : decode method_3_code 53 = .ok (.lstore_n 2, 1) := by decide +kernel
theorem d5_54 : decode method_3_code 54 = .ok (.lload_n 2, 1) := by decide +kernel
theorem d5_55 : decode method_3_code 55 = .ok (.lreturn, 1) := by decide +kernel
theorem pd_0 : parseMethodDescriptor "(J)J" = some ⟨[.long], some .long⟩ := by decide +kernel
theorem ef_rm5 (m : MethodId) (q1 : Int64) : entryFrame m #[(.long q1)] 4 = mkF m 0 #[.val (.long q1), .second, .unset, .unset] [] := by first | (simp [entryFrame, mkF, argsToLocals, Value.category]; done) | rfl
def fn5 (q1 : Int64) : Int64 := (let v1 : Int64 := ((q1 ^^^ ((q1.toUInt64 >>> ((31 : Int32) &&& 0x3f).toInt64.toUInt64).toInt64)) ^^^ ((q1.toUInt64 >>> ((62 : Int32) &&& 0x3f).toInt64.toUInt64).toInt64)); (let v3 : Int64 := (v1 * (fn1 (-7723592293110705685 : Int64))); (let v4 : Int64 := ((v3 ^^^ ((v3.toUInt64 >>> ((27 : Int32) &&& 0x3f).toInt64.toUInt64).toInt64)) ^^^ ((v3.toUInt64 >>> ((54 : Int32) &&& 0x3f).toInt64.toUInt64).toInt64)); (let v6 : Int64 := (v4 * (fn1 (-4658895280553007687 : Int64))); (let v7 : Int64 := ((v6 ^^^ ((v6.toUInt64 >>> ((30 : Int32) &&& 0x3f).toInt64.toUInt64).toInt64)) ^^^ ((v6.toUInt64 >>> ((60 : Int32) &&& 0x3f).toInt64.toUInt64).toInt64)); v7)))))
def Q5 (Z : State) (q1 : Int64) (h0 : Heap) (n0 : Nat) (v : Option Value) (h : Heap) (L : List Loc) : Prop := v = some (.long (fn5 q1)) ∧ Fr n0 L ∧ h = h0
set_option maxRecDepth 65536 in
set_option maxHeartbeats 40000000 in
theorem rm5 (l : Launch) (Z : State) (a0 : Array Value) (hw : ∀ d ∈ tables_1, d.before a0 Z = true) (ws : List Jvm.Cond) (q1 : Int64) (h0 : Heap) (n0 : Nat) (Z0 : n0 ≤ h0.size) :
    MetFree l (⟨"com/example/spreadbook/spreadbook/io/SplitMix64NextPinLaw", "unmix", "(J)J"⟩ : MethodName) (head1 (Jvm.Cond.code (⟨"com/example/spreadbook/spreadbook/io/SplitMix64NextPinLaw", "unmix", "(J)J"⟩ : MethodName) method_3_code 4 (some .long) :: ws) ({ frames := 1, cells := 0, slots := 0, locals := 17 } : Room)) (fun a U => a = #[(.long q1)] ∧ Z.Warmed39 U.vm ∧ U.heap = h0) (fun _ _ _ _ _ => True) (fun _ U o U' => ∃ v L, o = .returned v ∧ Q5 Z q1 h0 n0 v U'.heap L ∧ FrameEnd U o U' L ({ frames := 1, cells := 0, slots := 0, locals := 17 } : Room).cells ({ frames := 1, cells := 0, slots := 0, locals := 17 } : Room).slots) := by
  refine MetFree.of_bodySF (plainFor_of_name pn_0) hisR ?_
  intro p e s m args below meth c s₁ Bd hml0 hP hK
  obtain ⟨rfl, hZ, hh⟩ := hP
  have hx := Bd.exec
  have hby := Bd.bytes
  have hml : c.maxLocals = 4 := hml0
  have hown : s.vm.findClass "com/example/spreadbook/spreadbook/io/SplitMix64NextPinLaw" = some m.cls := findClass_of_methodNamed Bd.named
  have hnm := (name_of_methodNamed Bd.named Bd.method).1
  have X0 : Stand p l e ({ frames := 1, cells := 0, slots := 0, locals := 17 } : Room) s m #[(.long q1)] below meth c s₁ [] 0 0 := Stand.of_body Bd
  have e0 : s₁.heap = h0 := by rw [← hh, Bd.state]; rfl
  have N0 := Fr.nil n0
  show Goes p e s below (fun v h L => Q5 Z q1 h0 n0 v h L) ({ frames := 1, cells := 0, slots := 0, locals := 17 } : Room).cells ({ frames := 1, cells := 0, slots := 0, locals := 17 } : Room).slots (s₁.setTop (entryFrame m #[(.long q1)] 4))
  refine Goes.st (U' := s₁.setTop (mkF m 0 #[.val (.long q1), .second, .unset, .unset] [])) (fun t k => castTop (ef_rm5 m q1) k) ?_
  refine Goes.st (U' := s₁.setTop (mkF m 1 #[.val (.long q1), .second, .unset, .unset] [(.long q1)])) (fun t k => XS.lloadN X0.here hx rfl (hb hby d5_0) rfl k) ?_
  refine Goes.st (U' := s₁.setTop (mkF m 2 #[.val (.long q1), .second, .unset, .unset] [(.long q1), (.long q1)])) (fun t k => XS.lloadN X0.here hx rfl (hb hby d5_1) rfl k) ?_
  refine Goes.st (U' := s₁.setTop (mkF m 4 #[.val (.long q1), .second, .unset, .unset] [(.int (31 : Int32)), (.long q1), (.long q1)])) (fun t k => XS.bipush X0.here hx rfl (hb hby d5_2) k) ?_
  refine Goes.st (U' := s₁.setTop (mkF m 5 #[.val (.long q1), .second, .unset, .unset] [(.long ((q1.toUInt64 >>> ((31 : Int32) &&& 0x3f).toInt64.toUInt64).toInt64)), (.long q1)])) (fun t k => XS.lushr X0.here hx rfl (hb hby d5_4) rfl k) ?_
  refine Goes.st (U' := s₁.setTop (mkF m 6 #[.val (.long q1), .second, .unset, .unset] [(.long (q1 ^^^ ((q1.toUInt64 >>> ((31 : Int32) &&& 0x3f).toInt64.toUInt64).toInt64)))])) (fun t k => XS.lxor X0.here hx rfl (hb hby d5_5) rfl k) ?_
  refine Goes.st (U' := s₁.setTop (mkF m 7 #[.val (.long q1), .second, .unset, .unset] [(.long q1), (.long (q1 ^^^ ((q1.toUInt64 >>> ((31 : Int32) &&& 0x3f).toInt64.toUInt64).toInt64)))])) (fun t k => XS.lloadN X0.here hx rfl (hb hby d5_6) rfl k) ?_
  refine Goes.st (U' := s₁.setTop (mkF m 9 #[.val (.long q1), .second, .unset, .unset] [(.int (62 : Int32)), (.long q1), (.long (q1 ^^^ ((q1.toUInt64 >>> ((31 : Int32) &&& 0x3f).toInt64.toUInt64).toInt64)))])) (fun t k => XS.bipush X0.here hx rfl (hb hby d5_7) k) ?_
  refine Goes.st (U' := s₁.setTop (mkF m 10 #[.val (.long q1), .second, .unset, .unset] [(.long ((q1.toUInt64 >>> ((62 : Int32) &&& 0x3f).toInt64.toUInt64).toInt64)), (.long (q1 ^^^ ((q1.toUInt64 >>> ((31 : Int32) &&& 0x3f).toInt64.toUInt64).toInt64)))])) (fun t k => XS.lushr X0.here hx rfl (hb hby d5_9) rfl k) ?_
  refine Goes.st (U' := s₁.setTop (mkF m 11 #[.val (.long q1), .second, .unset, .unset] [(.long ((q1 ^^^ ((q1.toUInt64 >>> ((31 : Int32) &&& 0x3f).toInt64.toUInt64).toInt64)) ^^^ ((q1.toUInt64 >>> ((62 : Int32) &&& 0x3f).toInt64.toUInt64).toInt64)))])) (fun t k => XS.lxor X0.here hx rfl (hb hby d5_10) rfl k) ?_
  obtain ⟨v1, hv1⟩ : ∃ z : Int64, z = ((q1 ^^^ ((q1.toUInt64 >>> ((31 : Int32) &&& 0x3f).toInt64.toUInt64).toInt64)) ^^^ ((q1.toUInt64 >>> ((62 : Int32) &&& 0x3f).toInt64.toUInt64).toInt64)) := ⟨_, rfl⟩
  refine Goes.st (U' := s₁.setTop (mkF m 12 #[.val (.long q1), .second, .val (.long v1), .second] [])) (fun t k => (by subst hv1; exact XS.lstoreN X0.here hx rfl (hb hby d5_11) rfl (l' := #[.val (.long q1), .second, .val (.long ((q1 ^^^ ((q1.toUInt64 >>> ((31 : Int32) &&& 0x3f).toInt64.toUInt64).toInt64)) ^^^ ((q1.toUInt64 >>> ((62 : Int32) &&& 0x3f).toInt64.toUInt64).toInt64))), .second]) rfl k)) ?_
  refine Goes.st (U' := s₁.setTop (mkF m 13 #[.val (.long q1), .second, .val (.long v1), .second] [(.long v1)])) (fun t k => XS.lloadN X0.here hx rfl (hb hby d5_12) rfl k) ?_
  refine Goes.st (U' := s₁.setTop (mkF m 16 #[.val (.long q1), .second, .val (.long v1), .second] [(.long (-7723592293110705685 : Int64)), (.long v1)])) (fun t k => X0.ldc2Long hx hown (mvT hZ (hw _ (List.mem_of_getElem? (i := 6) rfl))) (g := (mkF m 13 #[.val (.long q1), .second, .val (.long v1), .second] [(.long v1)])) rfl (hb hby d5_13) t k) ?_
  obtain ⟨_, _, ⟨T2, L2, k2, n2⟩, -, X2, ⟨Lc2, hQ2, l2, y2, z2⟩, st2⟩ := Jvm.LawKit.callS X0 hx (y := (⟨"com/example/spreadbook/spreadbook/io/SplitMix64NextPinLaw", "inverseOdd", "(J)J"⟩ : MethodName)) hown (mvT hZ (hw _ (List.mem_of_getElem? (i := 1) rfl))) (mvT hZ (hw _ (List.mem_of_getElem? (i := 2) rfl))) (mvT hZ (hw _ (List.mem_of_getElem? (i := 3) rfl))) (mvT hZ (hw _ (List.mem_of_getElem? (i := 4) rfl))) (by decide) (backOf (W := 2) (rm1 l Z a0 hw [] (-7723592293110705685 : Int64) h0 n0 Z0) hZ (hw _ (List.mem_of_getElem? (i := 4) rfl)) (hw _ (List.mem_of_getElem? (i := 3) rfl)) (by decide) (by decide)) (g := (mkF m 16 #[.val (.long q1), .second, .val (.long v1), .second] [(.long (-7723592293110705685 : Int64)), (.long v1)])) rfl (by rw [hml]; rfl) (argsL := [(.long (-7723592293110705685 : Int64))]) (rest := [(.long v1)]) (lenOf pd_0 rfl) rfl (by show 2 * 0 + _ ≤ _; exact Nat.le_of_eq rfl) (hb hby d5_16) (fun _ _ => ⟨rfl, e0, (by decide : 0 + 0 ≤ _), (by decide : 0 + 0 ≤ _)⟩)
  dsimp only [Pt.U, Pt.locs, Pt.cells, Pt.slots] at X2 l2 y2 z2 st2 hQ2
  subst l2 y2 z2
  obtain ⟨rfl, N2q, e2⟩ := hQ2
  have N2 := Fr.app N0 N2q
  refine Goes.st (U' := T2.setTop (mkF m 19 #[.val (.long q1), .second, .val (.long v1), .second] [(.long (fn1 (-7723592293110705685 : Int64))), (.long v1)])) st2 ?_
  refine Goes.st (U' := T2.setTop (mkF m 20 #[.val (.long q1), .second, .val (.long v1), .second] [(.long (v1 * (fn1 (-7723592293110705685 : Int64))))])) (fun t k => XS.lmul X2.here hx rfl (hb hby d5_19) rfl k) ?_
  obtain ⟨v3, hv3⟩ : ∃ z : Int64, z = (v1 * (fn1 (-7723592293110705685 : Int64))) := ⟨_, rfl⟩
  refine Goes.st (U' := T2.setTop (mkF m 21 #[.val (.long q1), .second, .val (.long v3), .second] [])) (fun t k => (by subst hv3; exact XS.lstoreN X2.here hx rfl (hb hby d5_20) rfl (l' := #[.val (.long q1), .second, .val (.long (v1 * (fn1 (-7723592293110705685 : Int64)))), .second]) rfl k)) ?_
  refine Goes.st (U' := T2.setTop (mkF m 22 #[.val (.long q1), .second, .val (.long v3), .second] [(.long v3)])) (fun t k => XS.lloadN X2.here hx rfl (hb hby d5_21) rfl k) ?_
  refine Goes.st (U' := T2.setTop (mkF m 23 #[.val (.long q1), .second, .val (.long v3), .second] [(.long v3), (.long v3)])) (fun t k => XS.lloadN X2.here hx rfl (hb hby d5_22) rfl k) ?_
  refine Goes.st (U' := T2.setTop (mkF m 25 #[.val (.long q1), .second, .val (.long v3), .second] [(.int (27 : Int32)), (.long v3), (.long v3)])) (fun t k => XS.bipush X2.here hx rfl (hb hby d5_23) k) ?_
  refine Goes.st (U' := T2.setTop (mkF m 26 #[.val (.long q1), .second, .val (.long v3), .second] [(.long ((v3.toUInt64 >>> ((27 : Int32) &&& 0x3f).toInt64.toUInt64).toInt64)), (.long v3)])) (fun t k => XS.lushr X2.here hx rfl (hb hby d5_25) rfl k) ?_
  refine Goes.st (U' := T2.setTop (mkF m 27 #[.val (.long q1), .second, .val (.long v3), .second] [(.long (v3 ^^^ ((v3.toUInt64 >>> ((27 : Int32) &&& 0x3f).toInt64.toUInt64).toInt64)))])) (fun t k => XS.lxor X2.here hx rfl (hb hby d5_26) rfl k) ?_
  refine Goes.st (U' := T2.setTop (mkF m 28 #[.val (.long q1), .second, .val (.long v3), .second] [(.long v3), (.long (v3 ^^^ ((v3.toUInt64 >>> ((27 : Int32) &&& 0x3f).toInt64.toUInt64).toInt64)))])) (fun t k => XS.lloadN X2.here hx rfl (hb hby d5_27) rfl k) ?_
  refine Goes.st (U' := T2.setTop (mkF m 30 #[.val (.long q1), .second, .val (.long v3), .second] [(.int (54 : Int32)), (.long v3), (.long (v3 ^^^ ((v3.toUInt64 >>> ((27 : Int32) &&& 0x3f).toInt64.toUInt64).toInt64)))])) (fun t k => XS.bipush X2.here hx rfl (hb hby d5_28) k) ?_
  refine Goes.st (U' := T2.setTop (mkF m 31 #[.val (.long q1), .second, .val (.long v3), .second] [(.long ((v3.toUInt64 >>> ((54 : Int32) &&& 0x3f).toInt64.toUInt64).toInt64)), (.long (v3 ^^^ ((v3.toUInt64 >>> ((27 : Int32) &&& 0x3f).toInt64.toUInt64).toInt64)))])) (fun t k => XS.lushr X2.here hx rfl (hb hby d5_30) rfl k) ?_
  refine Goes.st (U' := T2.setTop (mkF m 32 #[.val (.long q1), .second, .val (.long v3), .second] [(.long ((v3 ^^^ ((v3.toUInt64 >>> ((27 : Int32) &&& 0x3f).toInt64.toUInt64).toInt64)) ^^^ ((v3.toUInt64 >>> ((54 : Int32) &&& 0x3f).toInt64.toUInt64).toInt64)))])) (fun t k => XS.lxor X2.here hx rfl (hb hby d5_31) rfl k) ?_
  obtain ⟨v4, hv4⟩ : ∃ z : Int64, z = ((v3 ^^^ ((v3.toUInt64 >>> ((27 : Int32) &&& 0x3f).toInt64.toUInt64).toInt64)) ^^^ ((v3.toUInt64 >>> ((54 : Int32) &&& 0x3f).toInt64.toUInt64).toInt64)) := ⟨_, rfl⟩
  refine Goes.st (U' := T2.setTop (mkF m 33 #[.val (.long q1), .second, .val (.long v4), .second] [])) (fun t k => (by subst hv4; exact XS.lstoreN X2.here hx rfl (hb hby d5_32) rfl (l' := #[.val (.long q1), .second, .val (.long ((v3 ^^^ ((v3.toUInt64 >>> ((27 : Int32) &&& 0x3f).toInt64.toUInt64).toInt64)) ^^^ ((v3.toUInt64 >>> ((54 : Int32) &&& 0x3f).toInt64.toUInt64).toInt64))), .second]) rfl k)) ?_
  refine Goes.st (U' := T2.setTop (mkF m 34 #[.val (.long q1), .second, .val (.long v4), .second] [(.long v4)])) (fun t k => XS.lloadN X2.here hx rfl (hb hby d5_33) rfl k) ?_
  refine Goes.st (U' := T2.setTop (mkF m 37 #[.val (.long q1), .second, .val (.long v4), .second] [(.long (-4658895280553007687 : Int64)), (.long v4)])) (fun t k => X2.ldc2Long hx hown (mvT hZ (hw _ (List.mem_of_getElem? (i := 0) rfl))) (g := (mkF m 34 #[.val (.long q1), .second, .val (.long v4), .second] [(.long v4)])) rfl (hb hby d5_34) t k) ?_
  obtain ⟨_, _, ⟨T5, L5, k5, n5⟩, -, X5, ⟨Lc5, hQ5, l5, y5, z5⟩, st5⟩ := Jvm.LawKit.callS X2 hx (y := (⟨"com/example/spreadbook/spreadbook/io/SplitMix64NextPinLaw", "inverseOdd", "(J)J"⟩ : MethodName)) hown (mvT hZ (hw _ (List.mem_of_getElem? (i := 1) rfl))) (mvT hZ (hw _ (List.mem_of_getElem? (i := 2) rfl))) (mvT hZ (hw _ (List.mem_of_getElem? (i := 3) rfl))) (mvT hZ (hw _ (List.mem_of_getElem? (i := 4) rfl))) (by decide) (backOf (W := 2) (rm1 l Z a0 hw [] (-4658895280553007687 : Int64) h0 n0 Z0) hZ (hw _ (List.mem_of_getElem? (i := 4) rfl)) (hw _ (List.mem_of_getElem? (i := 3) rfl)) (by decide) (by decide)) (g := (mkF m 37 #[.val (.long q1), .second, .val (.long v4), .second] [(.long (-4658895280553007687 : Int64)), (.long v4)])) rfl (by rw [hml]; rfl) (argsL := [(.long (-4658895280553007687 : Int64))]) (rest := [(.long v4)]) (lenOf pd_0 rfl) rfl (by show 2 * 0 + _ ≤ _; exact Nat.le_of_eq rfl) (hb hby d5_37) (fun _ _ => ⟨rfl, e2, (by decide : 0 + 0 ≤ _), (by decide : 0 + 0 ≤ _)⟩)
  dsimp only [Pt.U, Pt.locs, Pt.cells, Pt.slots] at X5 l5 y5 z5 st5 hQ5
  subst l5 y5 z5
  obtain ⟨rfl, N5q, e5⟩ := hQ5
  have N5 := Fr.app N2 N5q
  refine Goes.st (U' := T5.setTop (mkF m 40 #[.val (.long q1), .second, .val (.long v4), .second] [(.long (fn1 (-4658895280553007687 : Int64))), (.long v4)])) st5 ?_
  refine Goes.st (U' := T5.setTop (mkF m 41 #[.val (.long q1), .second, .val (.long v4), .second] [(.long (v4 * (fn1 (-4658895280553007687 : Int64))))])) (fun t k => XS.lmul X5.here hx rfl (hb hby d5_40) rfl k) ?_
  obtain ⟨v6, hv6⟩ : ∃ z : Int64, z = (v4 * (fn1 (-4658895280553007687 : Int64))) := ⟨_, rfl⟩
  refine Goes.st (U' := T5.setTop (mkF m 42 #[.val (.long q1), .second, .val (.long v6), .second] [])) (fun t k => (by subst hv6; exact XS.lstoreN X5.here hx rfl (hb hby d5_41) rfl (l' := #[.val (.long q1), .second, .val (.long (v4 * (fn1 (-4658895280553007687 : Int64)))), .second]) rfl k)) ?_
  refine Goes.st (U' := T5.setTop (mkF m 43 #[.val (.long q1), .second, .val (.long v6), .second] [(.long v6)])) (fun t k => XS.lloadN X5.here hx rfl (hb hby d5_42) rfl k) ?_
  refine Goes.st (U' := T5.setTop (mkF m 44 #[.val (.long q1), .second, .val (.long v6), .second] [(.long v6), (.long v6)])) (fun t k => XS.lloadN X5.here hx rfl (hb hby d5_43) rfl k) ?_
  refine Goes.st (U' := T5.setTop (mkF m 46 #[.val (.long q1), .second, .val (.long v6), .second] [(.int (30 : Int32)), (.long v6), (.long v6)])) (fun t k => XS.bipush X5.here hx rfl (hb hby d5_44) k) ?_
  refine Goes.st (U' := T5.setTop (mkF m 47 #[.val (.long q1), .second, .val (.long v6), .second] [(.long ((v6.toUInt64 >>> ((30 : Int32) &&& 0x3f).toInt64.toUInt64).toInt64)), (.long v6)])) (fun t k => XS.lushr X5.here hx rfl (hb hby d5_46) rfl k) ?_
  refine Goes.st (U' := T5.setTop (mkF m 48 #[.val (.long q1), .second, .val (.long v6), .second] [(.long (v6 ^^^ ((v6.toUInt64 >>> ((30 : Int32) &&& 0x3f).toInt64.toUInt64).toInt64)))])) (fun t k => XS.lxor X5.here hx rfl (hb hby d5_47) rfl k) ?_
  refine Goes.st (U' := T5.setTop (mkF m 49 #[.val (.long q1), .second, .val (.long v6), .second] [(.long v6), (.long (v6 ^^^ ((v6.toUInt64 >>> ((30 : Int32) &&& 0x3f).toInt64.toUInt64).toInt64)))])) (fun t k => XS.lloadN X5.here hx rfl (hb hby d5_48) rfl k) ?_
  refine Goes.st (U' := T5.setTop (mkF m 51 #[.val (.long q1), .second, .val (.long v6), .second] [(.int (60 : Int32)), (.long v6), (.long (v6 ^^^ ((v6.toUInt64 >>> ((30 : Int32) &&& 0x3f).toInt64.toUInt64).toInt64)))])) (fun t k => XS.bipush X5.here hx rfl (hb hby d5_49) k) ?_
  refine Goes.st (U' := T5.setTop (mkF m 52 #[.val (.long q1), .second, .val (.long v6), .second] [(.long ((v6.toUInt64 >>> ((60 : Int32) &&& 0x3f).toInt64.toUInt64).toInt64)), (.long (v6 ^^^ ((v6.toUInt64 >>> ((30 : Int32) &&& 0x3f).toInt64.toUInt64).toInt64)))])) (fun t k => XS.lushr X5.here hx rfl (hb hby d5_51) rfl k) ?_
  refine Goes.st (U' := T5.setTop (mkF m 53 #[.val (.long q1), .second, .val (.long v6), .second] [(.long ((v6 ^^^ ((v6.toUInt64 >>> ((30 : Int32) &&& 0x3f).toInt64.toUInt64).toInt64)) ^^^ ((v6.toUInt64 >>> ((60 : Int32) &&& 0x3f).toInt64.toUInt64).toInt64)))])) (fun t k => XS.lxor X5.here hx rfl (hb hby d5_52) rfl k) ?_
  obtain ⟨v7, hv7⟩ : ∃ z : Int64, z = ((v6 ^^^ ((v6.toUInt64 >>> ((30 : Int32) &&& 0x3f).toInt64.toUInt64).toInt64)) ^^^ ((v6.toUInt64 >>> ((60 : Int32) &&& 0x3f).toInt64.toUInt64).toInt64)) := ⟨_, rfl⟩
  refine Goes.st (U' := T5.setTop (mkF m 54 #[.val (.long q1), .second, .val (.long v7), .second] [])) (fun t k => (by subst hv7; exact XS.lstoreN X5.here hx rfl (hb hby d5_53) rfl (l' := #[.val (.long q1), .second, .val (.long ((v6 ^^^ ((v6.toUInt64 >>> ((30 : Int32) &&& 0x3f).toInt64.toUInt64).toInt64)) ^^^ ((v6.toUInt64 >>> ((60 : Int32) &&& 0x3f).toInt64.toUInt64).toInt64))), .second]) rfl k)) ?_
  refine Goes.st (U' := T5.setTop (mkF m 55 #[.val (.long q1), .second, .val (.long v7), .second] [(.long v7)])) (fun t k => XS.lloadN X5.here hx rfl (hb hby d5_54) rfl k) ?_
  refine Goes.retJ X5 hx (BodyLoose.notSynchronized Bd) Bd.returns (hb hby d5_55) (by decide) (by decide) ?_
  show Q5 Z q1 h0 n0 _ T5.heap _
  rw [e5]
  exact ⟨(by subst hv7; subst hv6; subst hv4; subst hv3; subst hv1; rfl), N5, rfl⟩
/-! the plain law -/
theorem own_inv1 : (-4658895280553007687 : Int64) * fn1 (-4658895280553007687 : Int64) = 1 := by decide +kernel
theorem own_inv2 : (-7723592293110705685 : Int64) * fn1 (-7723592293110705685 : Int64) = 1 := by decide +kernel
theorem own_x30 (x : Int64) : ((x.toUInt64 >>> ((30 : Int32) &&& 0x3f).toInt64.toUInt64).toInt64).toBitVec = x.toBitVec >>> 30 := rfl
theorem own_x60 (x : Int64) : ((x.toUInt64 >>> ((60 : Int32) &&& 0x3f).toInt64.toUInt64).toInt64).toBitVec = x.toBitVec >>> 60 := rfl
theorem own_x27 (x : Int64) : ((x.toUInt64 >>> ((27 : Int32) &&& 0x3f).toInt64.toUInt64).toInt64).toBitVec = x.toBitVec >>> 27 := rfl
theorem own_x54 (x : Int64) : ((x.toUInt64 >>> ((54 : Int32) &&& 0x3f).toInt64.toUInt64).toInt64).toBitVec = x.toBitVec >>> 54 := rfl
theorem own_x31 (x : Int64) : ((x.toUInt64 >>> ((31 : Int32) &&& 0x3f).toInt64.toUInt64).toInt64).toBitVec = x.toBitVec >>> 31 := rfl
theorem own_x62 (x : Int64) : ((x.toUInt64 >>> ((62 : Int32) &&& 0x3f).toInt64.toUInt64).toInt64).toBitVec = x.toBitVec >>> 62 := rfl
theorem own_bv (x : BitVec 64) (k : Nat) (hk : 64 ≤ k + k + k) : (x ^^^ x >>> k) ^^^ ((x ^^^ x >>> k) >>> k) ^^^ ((x ^^^ x >>> k) >>> (k + k)) = x := by
  rw [BitVec.ushiftRight_xor_distrib, BitVec.ushiftRight_xor_distrib, ← BitVec.shiftRight_add, ← BitVec.shiftRight_add, show k + (k + k) = k + k + k by omega, BitVec.ushiftRight_eq_zero hk]
  generalize x >>> k = y
  generalize x >>> (k + k) = z
  rw [BitVec.xor_zero, BitVec.xor_assoc x y, ← BitVec.xor_assoc y y z, BitVec.xor_self, BitVec.zero_xor, BitVec.xor_assoc, BitVec.xor_self, BitVec.xor_zero]
theorem own_mul (a b c : Int64) (h : b * c = 1) : a * b * c = a := by rw [Int64.mul_assoc, h, Int64.mul_one]
theorem own_u30 (x : Int64) : (x ^^^ ((x.toUInt64 >>> ((30 : Int32) &&& 0x3f).toInt64.toUInt64).toInt64)) ^^^ (((x ^^^ ((x.toUInt64 >>> ((30 : Int32) &&& 0x3f).toInt64.toUInt64).toInt64)).toUInt64 >>> ((30 : Int32) &&& 0x3f).toInt64.toUInt64).toInt64) ^^^ (((x ^^^ ((x.toUInt64 >>> ((30 : Int32) &&& 0x3f).toInt64.toUInt64).toInt64)).toUInt64 >>> ((60 : Int32) &&& 0x3f).toInt64.toUInt64).toInt64) = x := by
  apply Int64.toBitVec_inj.mp
  simp only [Int64.toBitVec_xor, own_x30, own_x60]
  exact own_bv x.toBitVec 30 (by decide)
theorem own_u27 (x : Int64) : (x ^^^ ((x.toUInt64 >>> ((27 : Int32) &&& 0x3f).toInt64.toUInt64).toInt64)) ^^^ (((x ^^^ ((x.toUInt64 >>> ((27 : Int32) &&& 0x3f).toInt64.toUInt64).toInt64)).toUInt64 >>> ((27 : Int32) &&& 0x3f).toInt64.toUInt64).toInt64) ^^^ (((x ^^^ ((x.toUInt64 >>> ((27 : Int32) &&& 0x3f).toInt64.toUInt64).toInt64)).toUInt64 >>> ((54 : Int32) &&& 0x3f).toInt64.toUInt64).toInt64) = x := by
  apply Int64.toBitVec_inj.mp
  simp only [Int64.toBitVec_xor, own_x27, own_x54]
  exact own_bv x.toBitVec 27 (by decide)
theorem own_u31 (x : Int64) : (x ^^^ ((x.toUInt64 >>> ((31 : Int32) &&& 0x3f).toInt64.toUInt64).toInt64)) ^^^ (((x ^^^ ((x.toUInt64 >>> ((31 : Int32) &&& 0x3f).toInt64.toUInt64).toInt64)).toUInt64 >>> ((31 : Int32) &&& 0x3f).toInt64.toUInt64).toInt64) ^^^ (((x ^^^ ((x.toUInt64 >>> ((31 : Int32) &&& 0x3f).toInt64.toUInt64).toInt64)).toUInt64 >>> ((62 : Int32) &&& 0x3f).toInt64.toUInt64).toInt64) = x := by
  apply Int64.toBitVec_inj.mp
  simp only [Int64.toBitVec_xor, own_x31, own_x62]
  exact own_bv x.toBitVec 31 (by decide)
theorem own_un (w : Int64) : fn5 (fn4 w) = w + (-7046029254386353131 : Int64) := by
  unfold fn5 fn4
  dsimp only
  rw [own_u31, own_mul _ _ _ own_inv2, own_u27, own_mul _ _ _ own_inv1, own_u30]
theorem own_two (q : Int64) : fn5 (fn4 (q + (-7046029254386353131 : Int64))) = q + (4354685564936845354 : Int64) := by
  rw [own_un, Int64.add_assoc]; rfl
theorem own_three (q : Int64) : fn5 (fn4 ((q + (-7046029254386353131 : Int64)) + (-7046029254386353131 : Int64))) = q + (-2691343689449507777 : Int64) := by
  rw [own_un, Int64.add_assoc, Int64.add_assoc]; rfl
theorem pd_1 : parseMethodDescriptor "(J)V" = some ⟨[.long], none⟩ := by decide +kernel
theorem pd_2 : parseMethodDescriptor "()J" = some ⟨[], some .long⟩ := by decide +kernel
theorem ef_rm0 (m : MethodId) (q1 : Int64) : entryFrame m #[(.long q1)] maxLocals = mkF m 0 #[.val (.long q1), .second, .unset, .unset, .unset, .unset, .unset, .unset, .unset, .unset] [] := by first | (simp [entryFrame, mkF, argsToLocals, Value.category, maxLocals]; done) | rfl
def Q0 (Z : State) (q1 : Int64) (h0 : Heap) (n0 : Nat) (v : Option Value) (h : Heap) (L : List Loc) : Prop := v = some (.int 1) ∧ Fr n0 L
set_option maxRecDepth 65536 in
set_option maxHeartbeats 40000000 in
theorem rm0 (l : Launch) (Z : State) (a0 : Array Value) (hw : ∀ d ∈ tables_1, d.before a0 Z = true) (ws : List Jvm.Cond) (q1 : Int64) (h0 : Heap) (n0 : Nat) (Z0 : n0 ≤ h0.size) :
    MetFree l x (head1 (Jvm.Cond.code x code maxLocals ret :: ws) room_1) (fun a U => a = #[(.long q1)] ∧ Z.Warmed39 U.vm ∧ U.heap = h0) (fun _ _ _ _ _ => True) (fun _ U o U' => ∃ v L, o = .returned v ∧ Q0 Z q1 h0 n0 v U'.heap L ∧ FrameEnd U o U' L room_1.cells room_1.slots) := by
  refine MetFree.of_bodySF (plainFor_of_name pn_0) hisR ?_
  intro p e s m args below meth c s₁ Bd hml0 hP hK
  obtain ⟨rfl, hZ, hh⟩ := hP
  have hx := Bd.exec
  have hby := Bd.bytes
  have hml : c.maxLocals = 10 := hml0
  have hown : s.vm.findClass "com/example/spreadbook/spreadbook/io/SplitMix64NextPinLaw" = some m.cls := findClass_of_methodNamed Bd.named
  have hnm := (name_of_methodNamed Bd.named Bd.method).1
  have X0 : Stand p l e room_1 s m #[(.long q1)] below meth c s₁ [] 0 0 := Stand.of_body Bd
  have e0 : s₁.heap = h0 := by rw [← hh, Bd.state]; rfl
  have N0 := Fr.nil n0
  show Goes p e s below (fun v h L => Q0 Z q1 h0 n0 v h L) room_1.cells room_1.slots (s₁.setTop (entryFrame m #[(.long q1)] maxLocals))
  refine Goes.st (U' := s₁.setTop (mkF m 0 #[.val (.long q1), .second, .unset, .unset, .unset, .unset, .unset, .unset, .unset, .unset] [])) (fun t k => castTop (ef_rm0 m q1) k) ?_
  refine Goes.st (U' := s₁.setTop (mkF m 3 #[.val (.long q1), .second, .unset, .unset, .unset, .unset, .unset, .unset, .unset, .unset] [(.long (-4658895280553007687 : Int64))])) (fun t k => X0.ldc2Long hx hown (mvT hZ (hw _ (List.mem_of_getElem? (i := 0) rfl))) (g := (mkF m 0 #[.val (.long q1), .second, .unset, .unset, .unset, .unset, .unset, .unset, .unset, .unset] [])) rfl (hb hby at_0) t k) ?_
  refine Goes.st (U' := s₁.setTop (mkF m 6 #[.val (.long q1), .second, .unset, .unset, .unset, .unset, .unset, .unset, .unset, .unset] [(.long (-4658895280553007687 : Int64)), (.long (-4658895280553007687 : Int64))])) (fun t k => X0.ldc2Long hx hown (mvT hZ (hw _ (List.mem_of_getElem? (i := 0) rfl))) (g := (mkF m 3 #[.val (.long q1), .second, .unset, .unset, .unset, .unset, .unset, .unset, .unset, .unset] [(.long (-4658895280553007687 : Int64))])) rfl (hb hby at_3) t k) ?_
  obtain ⟨_, _, ⟨T1, L1, k1, n1⟩, -, X1, ⟨Lc1, hQ1, l1, y1, z1⟩, st1⟩ := Jvm.LawKit.callS X0 hx (y := (⟨"com/example/spreadbook/spreadbook/io/SplitMix64NextPinLaw", "inverseOdd", "(J)J"⟩ : MethodName)) hown (mvT hZ (hw _ (List.mem_of_getElem? (i := 1) rfl))) (mvT hZ (hw _ (List.mem_of_getElem? (i := 2) rfl))) (mvT hZ (hw _ (List.mem_of_getElem? (i := 3) rfl))) (mvT hZ (hw _ (List.mem_of_getElem? (i := 4) rfl))) (by decide) (backOf (W := 2) (rm1 l Z a0 hw [] (-4658895280553007687 : Int64) h0 n0 Z0) hZ (hw _ (List.mem_of_getElem? (i := 4) rfl)) (hw _ (List.mem_of_getElem? (i := 3) rfl)) (by decide) (by decide)) (g := (mkF m 6 #[.val (.long q1), .second, .unset, .unset, .unset, .unset, .unset, .unset, .unset, .unset] [(.long (-4658895280553007687 : Int64)), (.long (-4658895280553007687 : Int64))])) rfl (by rw [hml]; rfl) (argsL := [(.long (-4658895280553007687 : Int64))]) (rest := [(.long (-4658895280553007687 : Int64))]) (lenOf pd_0 rfl) rfl (by show 2 * 0 + _ ≤ _; exact Nat.le_of_eq rfl) (hb hby at_6) (fun _ _ => ⟨rfl, e0, (by decide : 0 + 0 ≤ _), (by decide : 0 + 0 ≤ _)⟩)
  dsimp only [Pt.U, Pt.locs, Pt.cells, Pt.slots] at X1 l1 y1 z1 st1 hQ1
  subst l1 y1 z1
  obtain ⟨rfl, N1q, e1⟩ := hQ1
  have N1 := Fr.app N0 N1q
  refine Goes.st (U' := T1.setTop (mkF m 9 #[.val (.long q1), .second, .unset, .unset, .unset, .unset, .unset, .unset, .unset, .unset] [(.long (fn1 (-4658895280553007687 : Int64))), (.long (-4658895280553007687 : Int64))])) st1 ?_
  refine Goes.st (U' := T1.setTop (mkF m 10 #[.val (.long q1), .second, .unset, .unset, .unset, .unset, .unset, .unset, .unset, .unset] [(.long ((-4658895280553007687 : Int64) * (fn1 (-4658895280553007687 : Int64))))])) (fun t k => XS.lmul X1.here hx rfl (hb hby at_9) rfl k) ?_
  refine Goes.st (U' := T1.setTop (mkF m 11 #[.val (.long q1), .second, .unset, .unset, .unset, .unset, .unset, .unset, .unset, .unset] [(.long (1 : Int64)), (.long ((-4658895280553007687 : Int64) * (fn1 (-4658895280553007687 : Int64))))])) (fun t k => XS.lconst X1.here hx rfl (hb hby at_10) k) ?_
  refine Goes.st (U' := T1.setTop (mkF m 12 #[.val (.long q1), .second, .unset, .unset, .unset, .unset, .unset, .unset, .unset, .unset] [(.int (lcmpW ((-4658895280553007687 : Int64) * (fn1 (-4658895280553007687 : Int64))) (1 : Int64)))])) (fun t k => XS.lcmp X1.here hx rfl (hb hby at_11) rfl k) ?_
  refine Goes.st (U' := T1.setTop (mkF m 15 #[.val (.long q1), .second, .unset, .unset, .unset, .unset, .unset, .unset, .unset, .unset] [])) (fun t k => XS.ifNo X1.here hx rfl (hb hby at_12) rfl ((if0 _ _).trans (teq ((lw_eq _ _).mpr (own_inv1 : ((-4658895280553007687 : Int64) * (fn1 (-4658895280553007687 : Int64))) = (1 : Int64)))).2) k) ?_
  refine Goes.st (U' := T1.setTop (mkF m 18 #[.val (.long q1), .second, .unset, .unset, .unset, .unset, .unset, .unset, .unset, .unset] [(.long (-7723592293110705685 : Int64))])) (fun t k => X1.ldc2Long hx hown (mvT hZ (hw _ (List.mem_of_getElem? (i := 6) rfl))) (g := (mkF m 15 #[.val (.long q1), .second, .unset, .unset, .unset, .unset, .unset, .unset, .unset, .unset] [])) rfl (hb hby at_15) t k) ?_
  refine Goes.st (U' := T1.setTop (mkF m 21 #[.val (.long q1), .second, .unset, .unset, .unset, .unset, .unset, .unset, .unset, .unset] [(.long (-7723592293110705685 : Int64)), (.long (-7723592293110705685 : Int64))])) (fun t k => X1.ldc2Long hx hown (mvT hZ (hw _ (List.mem_of_getElem? (i := 6) rfl))) (g := (mkF m 18 #[.val (.long q1), .second, .unset, .unset, .unset, .unset, .unset, .unset, .unset, .unset] [(.long (-7723592293110705685 : Int64))])) rfl (hb hby at_18) t k) ?_
  obtain ⟨_, _, ⟨T2, L2, k2, n2⟩, -, X2, ⟨Lc2, hQ2, l2, y2, z2⟩, st2⟩ := Jvm.LawKit.callS X1 hx (y := (⟨"com/example/spreadbook/spreadbook/io/SplitMix64NextPinLaw", "inverseOdd", "(J)J"⟩ : MethodName)) hown (mvT hZ (hw _ (List.mem_of_getElem? (i := 1) rfl))) (mvT hZ (hw _ (List.mem_of_getElem? (i := 2) rfl))) (mvT hZ (hw _ (List.mem_of_getElem? (i := 3) rfl))) (mvT hZ (hw _ (List.mem_of_getElem? (i := 4) rfl))) (by decide) (backOf (W := 2) (rm1 l Z a0 hw [] (-7723592293110705685 : Int64) h0 n0 Z0) hZ (hw _ (List.mem_of_getElem? (i := 4) rfl)) (hw _ (List.mem_of_getElem? (i := 3) rfl)) (by decide) (by decide)) (g := (mkF m 21 #[.val (.long q1), .second, .unset, .unset, .unset, .unset, .unset, .unset, .unset, .unset] [(.long (-7723592293110705685 : Int64)), (.long (-7723592293110705685 : Int64))])) rfl (by rw [hml]; rfl) (argsL := [(.long (-7723592293110705685 : Int64))]) (rest := [(.long (-7723592293110705685 : Int64))]) (lenOf pd_0 rfl) rfl (by show 2 * 0 + _ ≤ _; exact Nat.le_of_eq rfl) (hb hby at_21) (fun _ _ => ⟨rfl, e1, (by decide : 0 + 0 ≤ _), (by decide : 0 + 0 ≤ _)⟩)
  dsimp only [Pt.U, Pt.locs, Pt.cells, Pt.slots] at X2 l2 y2 z2 st2 hQ2
  subst l2 y2 z2
  obtain ⟨rfl, N2q, e2⟩ := hQ2
  have N2 := Fr.app N1 N2q
  refine Goes.st (U' := T2.setTop (mkF m 24 #[.val (.long q1), .second, .unset, .unset, .unset, .unset, .unset, .unset, .unset, .unset] [(.long (fn1 (-7723592293110705685 : Int64))), (.long (-7723592293110705685 : Int64))])) st2 ?_
  refine Goes.st (U' := T2.setTop (mkF m 25 #[.val (.long q1), .second, .unset, .unset, .unset, .unset, .unset, .unset, .unset, .unset] [(.long ((-7723592293110705685 : Int64) * (fn1 (-7723592293110705685 : Int64))))])) (fun t k => XS.lmul X2.here hx rfl (hb hby at_24) rfl k) ?_
  refine Goes.st (U' := T2.setTop (mkF m 26 #[.val (.long q1), .second, .unset, .unset, .unset, .unset, .unset, .unset, .unset, .unset] [(.long (1 : Int64)), (.long ((-7723592293110705685 : Int64) * (fn1 (-7723592293110705685 : Int64))))])) (fun t k => XS.lconst X2.here hx rfl (hb hby at_25) k) ?_
  refine Goes.st (U' := T2.setTop (mkF m 27 #[.val (.long q1), .second, .unset, .unset, .unset, .unset, .unset, .unset, .unset, .unset] [(.int (lcmpW ((-7723592293110705685 : Int64) * (fn1 (-7723592293110705685 : Int64))) (1 : Int64)))])) (fun t k => XS.lcmp X2.here hx rfl (hb hby at_26) rfl k) ?_
  refine Goes.st (U' := T2.setTop (mkF m 30 #[.val (.long q1), .second, .unset, .unset, .unset, .unset, .unset, .unset, .unset, .unset] [])) (fun t k => XS.ifNo X2.here hx rfl (hb hby at_27) rfl ((if0 _ _).trans (teq ((lw_eq _ _).mpr (own_inv2 : ((-7723592293110705685 : Int64) * (fn1 (-7723592293110705685 : Int64))) = (1 : Int64)))).2) k) ?_
  refine Goes.st (U' := T2.setTop (mkF m 31 #[.val (.long q1), .second, .unset, .unset, .unset, .unset, .unset, .unset, .unset, .unset] [(.int (1 : Int32))])) (fun t k => XS.iconst X2.here hx rfl (hb hby at_30) k) ?_
  refine Goes.st (U' := T2.setTop (mkF m 35 #[.val (.long q1), .second, .unset, .unset, .unset, .unset, .unset, .unset, .unset, .unset] [(.int (1 : Int32))])) (fun t k => XS.goto X2.here hx rfl (pc0 := 31) (pc' := 35) rfl (hb hby at_31) (by decide) (by decide) k) ?_
  refine Goes.st (U' := T2.setTop (mkF m 36 #[.val (.long q1), .second, .val (.int (1 : Int32)), .unset, .unset, .unset, .unset, .unset, .unset, .unset] [])) (fun t k => XS.istoreN X2.here hx rfl (hb hby at_35) rfl (l' := #[.val (.long q1), .second, .val (.int (1 : Int32)), .unset, .unset, .unset, .unset, .unset, .unset, .unset]) rfl k) ?_
  obtain ⟨T3, h3, X3, e3, E3, A3, D3, -, st3⟩ := newO X2 hx hZ hown (hw _ (List.mem_of_getElem? (i := 7) rfl)) (hw _ (List.mem_of_getElem? (i := 8) rfl)) (hw _ (List.mem_of_getElem? (i := 9) rfl)) e2 (g := (mkF m 36 #[.val (.long q1), .second, .val (.int (1 : Int32)), .unset, .unset, .unset, .unset, .unset, .unset, .unset] [])) rfl (hb hby at_36) (by decide) (by decide)
  obtain ⟨b3, g3⟩ : ∃ z, z = h0.size := ⟨_, rfl⟩
  rw [← g3] at A3 D3 st3
  have g_b3 : n0 ≤ b3 := Nat.le_trans Z0 (Nat.le_of_eq g3.symm)
  have F_state_b3 : Fld Z h3 b3 "com/example/spreadbook/spreadbook/io/SplitMix64" "state" "J" (.long (0 : Int64)) := D3 (Or.inl (hw _ (List.mem_of_getElem? (i := 17) rfl))) (ty := .long) (by decide)
  refine Goes.st (U' := T3.setTop (mkF m 39 #[.val (.long q1), .second, .val (.int (1 : Int32)), .unset, .unset, .unset, .unset, .unset, .unset, .unset] [(.ref b3)])) (fun t k => st3 t k) ?_
  refine Goes.st (U' := T3.setTop (mkF m 40 #[.val (.long q1), .second, .val (.int (1 : Int32)), .unset, .unset, .unset, .unset, .unset, .unset, .unset] [(.ref b3), (.ref b3)])) (fun t k => XS.dup X3.here hx rfl (hb hby at_39) rfl rfl k) ?_
  refine Goes.st (U' := T3.setTop (mkF m 41 #[.val (.long q1), .second, .val (.int (1 : Int32)), .unset, .unset, .unset, .unset, .unset, .unset, .unset] [(.long q1), (.ref b3), (.ref b3)])) (fun t k => XS.lloadN X3.here hx rfl (hb hby at_40) rfl k) ?_
  obtain ⟨_, _, ⟨T4, L4, k4, n4⟩, -, X4, ⟨Lc4, hQ4, l4, y4, z4⟩, st4⟩ := X3.specialBack hx (y := (⟨"com/example/spreadbook/spreadbook/io/SplitMix64", "<init>", "(J)V"⟩ : MethodName)) rfl hown (mvT hZ (hw _ (List.mem_of_getElem? (i := 10) rfl))) (mvT hZ (hw _ (List.mem_of_getElem? (i := 11) rfl))) (mvT hZ (hw _ (List.mem_of_getElem? (i := 12) rfl))) (by decide) (backOf (W := 1) (rm2 l Z a0 hw [] b3 q1 h3 n0 (Nat.le_trans Z0 E3.1) A3 F_state_b3 g_b3) hZ (hw _ (List.mem_of_getElem? (i := 12) rfl)) (hw _ (List.mem_of_getElem? (i := 9) rfl)) (by decide) (by decide)) (g := (mkF m 41 #[.val (.long q1), .second, .val (.int (1 : Int32)), .unset, .unset, .unset, .unset, .unset, .unset, .unset] [(.long q1), (.ref b3), (.ref b3)])) rfl (by rw [hml]; rfl) (Steps.refl _) (a := b3) (argsL := [(.long q1)]) (rest := [(.ref b3)]) (lenOf pd_1 rfl) rfl (by show 2 * 0 + _ ≤ _; exact Nat.le_of_eq rfl) (hb hby at_41) (fun _ _ => ⟨rfl, e3, (by decide : 1 + 0 ≤ _), (by decide : 1 + 0 ≤ _)⟩)
  dsimp only [Pt.U, Pt.locs, Pt.cells, Pt.slots] at X4 l4 y4 z4 st4 hQ4
  subst l4 y4 z4
  obtain ⟨rfl, N4q, K4, E4, F4⟩ := hQ4
  have N4 := Fr.app N2 N4q
  refine Goes.tr (U' := T4.setTop (mkF m 44 #[.val (.long q1), .second, .val (.int (1 : Int32)), .unset, .unset, .unset, .unset, .unset, .unset, .unset] [(.ref b3)])) st4 ?_
  refine Goes.st (U' := T4.setTop (mkF m 45 #[.val (.long q1), .second, .val (.int (1 : Int32)), .val (.ref b3), .unset, .unset, .unset, .unset, .unset, .unset] [])) (fun t k => XS.astoreN X4.here hx rfl (hb hby at_44) rfl rfl (l' := #[.val (.long q1), .second, .val (.int (1 : Int32)), .val (.ref b3), .unset, .unset, .unset, .unset, .unset, .unset]) rfl k) ?_
  refine Goes.st (U' := T4.setTop (mkF m 46 #[.val (.long q1), .second, .val (.int (1 : Int32)), .val (.ref b3), .unset, .unset, .unset, .unset, .unset, .unset] [(.ref b3)])) (fun t k => XS.aloadN X4.here hx rfl (hb hby at_45) rfl rfl k) ?_
  obtain ⟨cq5, kq5, q5a, q5b, q5c⟩ := isOf hZ rfl E4
  obtain ⟨_, _, ⟨T5, L5, k5, n5⟩, -, X5, ⟨Lc5, hQ5, l5, y5, z5⟩, st5⟩ := X4.virtualBack hx (y := (⟨"com/example/spreadbook/spreadbook/io/SplitMix64", "next", "()J"⟩ : MethodName)) (z := (⟨"com/example/spreadbook/spreadbook/io/SplitMix64", "next", "()J"⟩ : MethodName)) hown (mvT hZ (hw _ (List.mem_of_getElem? (i := 18) rfl))) (mvT hZ (hw _ (List.mem_of_getElem? (i := 19) rfl))) (notFace_of_selects (args := #[]) (mvT hZ (hw _ (List.mem_of_getElem? (i := 21) rfl)))) (mvT hZ (hw _ (List.mem_of_getElem? (i := 21) rfl))) (mvT hZ (hw _ (List.mem_of_getElem? (i := 20) rfl))) (by decide) (backOf (W := 0) (rm4 l Z a0 hw [] b3 q1 T4.heap n0 (Nat.le_trans (Nat.le_trans Z0 E3.1) K4.1) E4 F4 g_b3) hZ (hw _ (List.mem_of_getElem? (i := 22) rfl)) (hw _ (List.mem_of_getElem? (i := 9) rfl)) (by decide) (by decide)) q5a q5c (g := (mkF m 46 #[.val (.long q1), .second, .val (.int (1 : Int32)), .val (.ref b3), .unset, .unset, .unset, .unset, .unset, .unset] [(.ref b3)])) rfl (by rw [hml]; rfl) (Steps.refl _) (argsL := []) (rest := []) (lenOf pd_2 rfl) rfl (by show 2 * 0 + _ ≤ _; exact Nat.le_of_eq rfl) (hb hby at_46) (fun _ _ => ⟨rfl, rfl, (by decide : 1 + 0 ≤ _), (by decide : 1 + 0 ≤ _)⟩)
  dsimp only [Pt.U, Pt.locs, Pt.cells, Pt.slots] at X5 l5 y5 z5 st5 hQ5
  subst l5 y5 z5
  obtain ⟨rfl, N5q, K5, E5, F5⟩ := hQ5
  have N5 := Fr.app N4 N5q
  refine Goes.tr (U' := T5.setTop (mkF m 49 #[.val (.long q1), .second, .val (.int (1 : Int32)), .val (.ref b3), .unset, .unset, .unset, .unset, .unset, .unset] [(.long (fn4 q1))])) st5 ?_
  refine Goes.st (U' := T5.setTop (mkF m 51 #[.val (.long q1), .second, .val (.int (1 : Int32)), .val (.ref b3), .val (.long (fn4 q1)), .second, .unset, .unset, .unset, .unset] [])) (fun t k => XS.lstore X5.here hx rfl (hb hby at_49) rfl (l' := #[.val (.long q1), .second, .val (.int (1 : Int32)), .val (.ref b3), .val (.long (fn4 q1)), .second, .unset, .unset, .unset, .unset]) rfl k) ?_
  refine Goes.st (U' := T5.setTop (mkF m 52 #[.val (.long q1), .second, .val (.int (1 : Int32)), .val (.ref b3), .val (.long (fn4 q1)), .second, .unset, .unset, .unset, .unset] [(.ref b3)])) (fun t k => XS.aloadN X5.here hx rfl (hb hby at_51) rfl rfl k) ?_
  obtain ⟨cq6, kq6, q6a, q6b, q6c⟩ := isOf hZ rfl E5
  obtain ⟨_, _, ⟨T6, L6, k6, n6⟩, -, X6, ⟨Lc6, hQ6, l6, y6, z6⟩, st6⟩ := X5.virtualBack hx (y := (⟨"com/example/spreadbook/spreadbook/io/SplitMix64", "next", "()J"⟩ : MethodName)) (z := (⟨"com/example/spreadbook/spreadbook/io/SplitMix64", "next", "()J"⟩ : MethodName)) hown (mvT hZ (hw _ (List.mem_of_getElem? (i := 18) rfl))) (mvT hZ (hw _ (List.mem_of_getElem? (i := 19) rfl))) (notFace_of_selects (args := #[]) (mvT hZ (hw _ (List.mem_of_getElem? (i := 21) rfl)))) (mvT hZ (hw _ (List.mem_of_getElem? (i := 21) rfl))) (mvT hZ (hw _ (List.mem_of_getElem? (i := 20) rfl))) (by decide) (backOf (W := 0) (rm4 l Z a0 hw [] b3 (q1 + (-7046029254386353131 : Int64)) T5.heap n0 (Nat.le_trans (Nat.le_trans (Nat.le_trans Z0 E3.1) K4.1) K5.1) E5 F5 g_b3) hZ (hw _ (List.mem_of_getElem? (i := 22) rfl)) (hw _ (List.mem_of_getElem? (i := 9) rfl)) (by decide) (by decide)) q6a q6c (g := (mkF m 52 #[.val (.long q1), .second, .val (.int (1 : Int32)), .val (.ref b3), .val (.long (fn4 q1)), .second, .unset, .unset, .unset, .unset] [(.ref b3)])) rfl (by rw [hml]; rfl) (Steps.refl _) (argsL := []) (rest := []) (lenOf pd_2 rfl) rfl (by show 2 * 0 + _ ≤ _; exact Nat.le_of_eq rfl) (hb hby at_52) (fun _ _ => ⟨rfl, rfl, (by decide : 1 + 0 ≤ _), (by decide : 1 + 0 ≤ _)⟩)
  dsimp only [Pt.U, Pt.locs, Pt.cells, Pt.slots] at X6 l6 y6 z6 st6 hQ6
  subst l6 y6 z6
  obtain ⟨rfl, N6q, K6, E6, F6⟩ := hQ6
  have N6 := Fr.app N5 N6q
  refine Goes.tr (U' := T6.setTop (mkF m 55 #[.val (.long q1), .second, .val (.int (1 : Int32)), .val (.ref b3), .val (.long (fn4 q1)), .second, .unset, .unset, .unset, .unset] [(.long (fn4 (q1 + (-7046029254386353131 : Int64))))])) st6 ?_
  refine Goes.st (U' := T6.setTop (mkF m 57 #[.val (.long q1), .second, .val (.int (1 : Int32)), .val (.ref b3), .val (.long (fn4 q1)), .second, .val (.long (fn4 (q1 + (-7046029254386353131 : Int64)))), .second, .unset, .unset] [])) (fun t k => XS.lstore X6.here hx rfl (hb hby at_55) rfl (l' := #[.val (.long q1), .second, .val (.int (1 : Int32)), .val (.ref b3), .val (.long (fn4 q1)), .second, .val (.long (fn4 (q1 + (-7046029254386353131 : Int64)))), .second, .unset, .unset]) rfl k) ?_
  refine Goes.st (U' := T6.setTop (mkF m 58 #[.val (.long q1), .second, .val (.int (1 : Int32)), .val (.ref b3), .val (.long (fn4 q1)), .second, .val (.long (fn4 (q1 + (-7046029254386353131 : Int64)))), .second, .unset, .unset] [(.ref b3)])) (fun t k => XS.aloadN X6.here hx rfl (hb hby at_57) rfl rfl k) ?_
  obtain ⟨cq7, kq7, q7a, q7b, q7c⟩ := isOf hZ rfl E6
  obtain ⟨_, _, ⟨T7, L7, k7, n7⟩, -, X7, ⟨Lc7, hQ7, l7, y7, z7⟩, st7⟩ := X6.virtualBack hx (y := (⟨"com/example/spreadbook/spreadbook/io/SplitMix64", "next", "()J"⟩ : MethodName)) (z := (⟨"com/example/spreadbook/spreadbook/io/SplitMix64", "next", "()J"⟩ : MethodName)) hown (mvT hZ (hw _ (List.mem_of_getElem? (i := 18) rfl))) (mvT hZ (hw _ (List.mem_of_getElem? (i := 19) rfl))) (notFace_of_selects (args := #[]) (mvT hZ (hw _ (List.mem_of_getElem? (i := 21) rfl)))) (mvT hZ (hw _ (List.mem_of_getElem? (i := 21) rfl))) (mvT hZ (hw _ (List.mem_of_getElem? (i := 20) rfl))) (by decide) (backOf (W := 0) (rm4 l Z a0 hw [] b3 ((q1 + (-7046029254386353131 : Int64)) + (-7046029254386353131 : Int64)) T6.heap n0 (Nat.le_trans (Nat.le_trans (Nat.le_trans (Nat.le_trans Z0 E3.1) K4.1) K5.1) K6.1) E6 F6 g_b3) hZ (hw _ (List.mem_of_getElem? (i := 22) rfl)) (hw _ (List.mem_of_getElem? (i := 9) rfl)) (by decide) (by decide)) q7a q7c (g := (mkF m 58 #[.val (.long q1), .second, .val (.int (1 : Int32)), .val (.ref b3), .val (.long (fn4 q1)), .second, .val (.long (fn4 (q1 + (-7046029254386353131 : Int64)))), .second, .unset, .unset] [(.ref b3)])) rfl (by rw [hml]; rfl) (Steps.refl _) (argsL := []) (rest := []) (lenOf pd_2 rfl) rfl (by show 2 * 0 + _ ≤ _; exact Nat.le_of_eq rfl) (hb hby at_58) (fun _ _ => ⟨rfl, rfl, (by decide : 1 + 0 ≤ _), (by decide : 1 + 0 ≤ _)⟩)
  dsimp only [Pt.U, Pt.locs, Pt.cells, Pt.slots] at X7 l7 y7 z7 st7 hQ7
  subst l7 y7 z7
  obtain ⟨rfl, N7q, K7, E7, F7⟩ := hQ7
  have N7 := Fr.app N6 N7q
  refine Goes.tr (U' := T7.setTop (mkF m 61 #[.val (.long q1), .second, .val (.int (1 : Int32)), .val (.ref b3), .val (.long (fn4 q1)), .second, .val (.long (fn4 (q1 + (-7046029254386353131 : Int64)))), .second, .unset, .unset] [(.long (fn4 ((q1 + (-7046029254386353131 : Int64)) + (-7046029254386353131 : Int64))))])) st7 ?_
  refine Goes.st (U' := T7.setTop (mkF m 63 #[.val (.long q1), .second, .val (.int (1 : Int32)), .val (.ref b3), .val (.long (fn4 q1)), .second, .val (.long (fn4 (q1 + (-7046029254386353131 : Int64)))), .second, .val (.long (fn4 ((q1 + (-7046029254386353131 : Int64)) + (-7046029254386353131 : Int64)))), .second] [])) (fun t k => XS.lstore X7.here hx rfl (hb hby at_61) rfl (l' := #[.val (.long q1), .second, .val (.int (1 : Int32)), .val (.ref b3), .val (.long (fn4 q1)), .second, .val (.long (fn4 (q1 + (-7046029254386353131 : Int64)))), .second, .val (.long (fn4 ((q1 + (-7046029254386353131 : Int64)) + (-7046029254386353131 : Int64)))), .second]) rfl k) ?_
  refine Goes.st (U' := T7.setTop (mkF m 64 #[.val (.long q1), .second, .val (.int (1 : Int32)), .val (.ref b3), .val (.long (fn4 q1)), .second, .val (.long (fn4 (q1 + (-7046029254386353131 : Int64)))), .second, .val (.long (fn4 ((q1 + (-7046029254386353131 : Int64)) + (-7046029254386353131 : Int64)))), .second] [(.int (1 : Int32))])) (fun t k => XS.iloadN X7.here hx rfl (hb hby at_63) rfl k) ?_
  refine Goes.st (U' := T7.setTop (mkF m 67 #[.val (.long q1), .second, .val (.int (1 : Int32)), .val (.ref b3), .val (.long (fn4 q1)), .second, .val (.long (fn4 (q1 + (-7046029254386353131 : Int64)))), .second, .val (.long (fn4 ((q1 + (-7046029254386353131 : Int64)) + (-7046029254386353131 : Int64)))), .second] [])) (fun t k => XS.ifNo X7.here hx rfl (hb hby at_64) rfl ((if0 _ _).trans (feq (by decide : ¬ ((1 : Int32) = (0 : Int32)))).1) k) ?_
  refine Goes.st (U' := T7.setTop (mkF m 69 #[.val (.long q1), .second, .val (.int (1 : Int32)), .val (.ref b3), .val (.long (fn4 q1)), .second, .val (.long (fn4 (q1 + (-7046029254386353131 : Int64)))), .second, .val (.long (fn4 ((q1 + (-7046029254386353131 : Int64)) + (-7046029254386353131 : Int64)))), .second] [(.long (fn4 q1))])) (fun t k => XS.lload X7.here hx rfl (hb hby at_67) rfl k) ?_
  obtain ⟨_, _, ⟨T8, L8, k8, n8⟩, -, X8, ⟨Lc8, hQ8, l8, y8, z8⟩, st8⟩ := Jvm.LawKit.callS X7 hx (y := (⟨"com/example/spreadbook/spreadbook/io/SplitMix64NextPinLaw", "unmix", "(J)J"⟩ : MethodName)) hown (mvT hZ (hw _ (List.mem_of_getElem? (i := 26) rfl))) (mvT hZ (hw _ (List.mem_of_getElem? (i := 27) rfl))) (mvT hZ (hw _ (List.mem_of_getElem? (i := 3) rfl))) (mvT hZ (hw _ (List.mem_of_getElem? (i := 28) rfl))) (by decide) (backOf (W := 0) (rm5 l Z a0 hw [] (fn4 q1) T7.heap n0 (Nat.le_trans (Nat.le_trans (Nat.le_trans (Nat.le_trans (Nat.le_trans Z0 E3.1) K4.1) K5.1) K6.1) K7.1)) hZ (hw _ (List.mem_of_getElem? (i := 28) rfl)) (hw _ (List.mem_of_getElem? (i := 3) rfl)) (by decide) (by decide)) (g := (mkF m 69 #[.val (.long q1), .second, .val (.int (1 : Int32)), .val (.ref b3), .val (.long (fn4 q1)), .second, .val (.long (fn4 (q1 + (-7046029254386353131 : Int64)))), .second, .val (.long (fn4 ((q1 + (-7046029254386353131 : Int64)) + (-7046029254386353131 : Int64)))), .second] [(.long (fn4 q1))])) rfl (by rw [hml]; rfl) (argsL := [(.long (fn4 q1))]) (rest := []) (lenOf pd_0 rfl) rfl (by show 2 * 0 + _ ≤ _; exact Nat.le_of_eq rfl) (hb hby at_69) (fun _ _ => ⟨rfl, rfl, (by decide : 1 + 0 ≤ _), (by decide : 1 + 0 ≤ _)⟩)
  dsimp only [Pt.U, Pt.locs, Pt.cells, Pt.slots] at X8 l8 y8 z8 st8 hQ8
  subst l8 y8 z8
  obtain ⟨rfl, N8q, e8⟩ := hQ8
  have N8 := Fr.app N7 N8q
  refine Goes.st (U' := T8.setTop (mkF m 72 #[.val (.long q1), .second, .val (.int (1 : Int32)), .val (.ref b3), .val (.long (fn4 q1)), .second, .val (.long (fn4 (q1 + (-7046029254386353131 : Int64)))), .second, .val (.long (fn4 ((q1 + (-7046029254386353131 : Int64)) + (-7046029254386353131 : Int64)))), .second] [(.long (fn5 (fn4 q1)))])) st8 ?_
  refine Goes.st (U' := T8.setTop (mkF m 73 #[.val (.long q1), .second, .val (.int (1 : Int32)), .val (.ref b3), .val (.long (fn4 q1)), .second, .val (.long (fn4 (q1 + (-7046029254386353131 : Int64)))), .second, .val (.long (fn4 ((q1 + (-7046029254386353131 : Int64)) + (-7046029254386353131 : Int64)))), .second] [(.long q1), (.long (fn5 (fn4 q1)))])) (fun t k => XS.lloadN X8.here hx rfl (hb hby at_72) rfl k) ?_
  refine Goes.st (U' := T8.setTop (mkF m 76 #[.val (.long q1), .second, .val (.int (1 : Int32)), .val (.ref b3), .val (.long (fn4 q1)), .second, .val (.long (fn4 (q1 + (-7046029254386353131 : Int64)))), .second, .val (.long (fn4 ((q1 + (-7046029254386353131 : Int64)) + (-7046029254386353131 : Int64)))), .second] [(.long (-7046029254386353131 : Int64)), (.long q1), (.long (fn5 (fn4 q1)))])) (fun t k => X8.ldc2Long hx hown (mvT hZ (hw _ (List.mem_of_getElem? (i := 29) rfl))) (g := (mkF m 73 #[.val (.long q1), .second, .val (.int (1 : Int32)), .val (.ref b3), .val (.long (fn4 q1)), .second, .val (.long (fn4 (q1 + (-7046029254386353131 : Int64)))), .second, .val (.long (fn4 ((q1 + (-7046029254386353131 : Int64)) + (-7046029254386353131 : Int64)))), .second] [(.long q1), (.long (fn5 (fn4 q1)))])) rfl (hb hby at_73) t k) ?_
  refine Goes.st (U' := T8.setTop (mkF m 77 #[.val (.long q1), .second, .val (.int (1 : Int32)), .val (.ref b3), .val (.long (fn4 q1)), .second, .val (.long (fn4 (q1 + (-7046029254386353131 : Int64)))), .second, .val (.long (fn4 ((q1 + (-7046029254386353131 : Int64)) + (-7046029254386353131 : Int64)))), .second] [(.long (q1 + (-7046029254386353131 : Int64))), (.long (fn5 (fn4 q1)))])) (fun t k => XS.ladd X8.here hx rfl (hb hby at_76) rfl k) ?_
  refine Goes.st (U' := T8.setTop (mkF m 78 #[.val (.long q1), .second, .val (.int (1 : Int32)), .val (.ref b3), .val (.long (fn4 q1)), .second, .val (.long (fn4 (q1 + (-7046029254386353131 : Int64)))), .second, .val (.long (fn4 ((q1 + (-7046029254386353131 : Int64)) + (-7046029254386353131 : Int64)))), .second] [(.int (lcmpW (fn5 (fn4 q1)) (q1 + (-7046029254386353131 : Int64))))])) (fun t k => XS.lcmp X8.here hx rfl (hb hby at_77) rfl k) ?_
  refine Goes.st (U' := T8.setTop (mkF m 81 #[.val (.long q1), .second, .val (.int (1 : Int32)), .val (.ref b3), .val (.long (fn4 q1)), .second, .val (.long (fn4 (q1 + (-7046029254386353131 : Int64)))), .second, .val (.long (fn4 ((q1 + (-7046029254386353131 : Int64)) + (-7046029254386353131 : Int64)))), .second] [])) (fun t k => XS.ifNo X8.here hx rfl (hb hby at_78) rfl ((if0 _ _).trans (teq ((lw_eq _ _).mpr (own_un q1 : (fn5 (fn4 q1)) = (q1 + (-7046029254386353131 : Int64))))).2) k) ?_
  refine Goes.st (U' := T8.setTop (mkF m 83 #[.val (.long q1), .second, .val (.int (1 : Int32)), .val (.ref b3), .val (.long (fn4 q1)), .second, .val (.long (fn4 (q1 + (-7046029254386353131 : Int64)))), .second, .val (.long (fn4 ((q1 + (-7046029254386353131 : Int64)) + (-7046029254386353131 : Int64)))), .second] [(.long (fn4 (q1 + (-7046029254386353131 : Int64))))])) (fun t k => XS.lload X8.here hx rfl (hb hby at_81) rfl k) ?_
  obtain ⟨_, _, ⟨T9, L9, k9, n9⟩, -, X9, ⟨Lc9, hQ9, l9, y9, z9⟩, st9⟩ := Jvm.LawKit.callS X8 hx (y := (⟨"com/example/spreadbook/spreadbook/io/SplitMix64NextPinLaw", "unmix", "(J)J"⟩ : MethodName)) hown (mvT hZ (hw _ (List.mem_of_getElem? (i := 26) rfl))) (mvT hZ (hw _ (List.mem_of_getElem? (i := 27) rfl))) (mvT hZ (hw _ (List.mem_of_getElem? (i := 3) rfl))) (mvT hZ (hw _ (List.mem_of_getElem? (i := 28) rfl))) (by decide) (backOf (W := 0) (rm5 l Z a0 hw [] (fn4 (q1 + (-7046029254386353131 : Int64))) T7.heap n0 (Nat.le_trans (Nat.le_trans (Nat.le_trans (Nat.le_trans (Nat.le_trans Z0 E3.1) K4.1) K5.1) K6.1) K7.1)) hZ (hw _ (List.mem_of_getElem? (i := 28) rfl)) (hw _ (List.mem_of_getElem? (i := 3) rfl)) (by decide) (by decide)) (g := (mkF m 83 #[.val (.long q1), .second, .val (.int (1 : Int32)), .val (.ref b3), .val (.long (fn4 q1)), .second, .val (.long (fn4 (q1 + (-7046029254386353131 : Int64)))), .second, .val (.long (fn4 ((q1 + (-7046029254386353131 : Int64)) + (-7046029254386353131 : Int64)))), .second] [(.long (fn4 (q1 + (-7046029254386353131 : Int64))))])) rfl (by rw [hml]; rfl) (argsL := [(.long (fn4 (q1 + (-7046029254386353131 : Int64))))]) (rest := []) (lenOf pd_0 rfl) rfl (by show 2 * 0 + _ ≤ _; exact Nat.le_of_eq rfl) (hb hby at_83) (fun _ _ => ⟨rfl, e8, (by decide : 1 + 0 ≤ _), (by decide : 1 + 0 ≤ _)⟩)
  dsimp only [Pt.U, Pt.locs, Pt.cells, Pt.slots] at X9 l9 y9 z9 st9 hQ9
  subst l9 y9 z9
  obtain ⟨rfl, N9q, e9⟩ := hQ9
  have N9 := Fr.app N8 N9q
  refine Goes.st (U' := T9.setTop (mkF m 86 #[.val (.long q1), .second, .val (.int (1 : Int32)), .val (.ref b3), .val (.long (fn4 q1)), .second, .val (.long (fn4 (q1 + (-7046029254386353131 : Int64)))), .second, .val (.long (fn4 ((q1 + (-7046029254386353131 : Int64)) + (-7046029254386353131 : Int64)))), .second] [(.long (fn5 (fn4 (q1 + (-7046029254386353131 : Int64)))))])) st9 ?_
  refine Goes.st (U' := T9.setTop (mkF m 87 #[.val (.long q1), .second, .val (.int (1 : Int32)), .val (.ref b3), .val (.long (fn4 q1)), .second, .val (.long (fn4 (q1 + (-7046029254386353131 : Int64)))), .second, .val (.long (fn4 ((q1 + (-7046029254386353131 : Int64)) + (-7046029254386353131 : Int64)))), .second] [(.long q1), (.long (fn5 (fn4 (q1 + (-7046029254386353131 : Int64)))))])) (fun t k => XS.lloadN X9.here hx rfl (hb hby at_86) rfl k) ?_
  refine Goes.st (U' := T9.setTop (mkF m 90 #[.val (.long q1), .second, .val (.int (1 : Int32)), .val (.ref b3), .val (.long (fn4 q1)), .second, .val (.long (fn4 (q1 + (-7046029254386353131 : Int64)))), .second, .val (.long (fn4 ((q1 + (-7046029254386353131 : Int64)) + (-7046029254386353131 : Int64)))), .second] [(.long (4354685564936845354 : Int64)), (.long q1), (.long (fn5 (fn4 (q1 + (-7046029254386353131 : Int64)))))])) (fun t k => X9.ldc2Long hx hown (mvT hZ (hw _ (List.mem_of_getElem? (i := 30) rfl))) (g := (mkF m 87 #[.val (.long q1), .second, .val (.int (1 : Int32)), .val (.ref b3), .val (.long (fn4 q1)), .second, .val (.long (fn4 (q1 + (-7046029254386353131 : Int64)))), .second, .val (.long (fn4 ((q1 + (-7046029254386353131 : Int64)) + (-7046029254386353131 : Int64)))), .second] [(.long q1), (.long (fn5 (fn4 (q1 + (-7046029254386353131 : Int64)))))])) rfl (hb hby at_87) t k) ?_
  refine Goes.st (U' := T9.setTop (mkF m 91 #[.val (.long q1), .second, .val (.int (1 : Int32)), .val (.ref b3), .val (.long (fn4 q1)), .second, .val (.long (fn4 (q1 + (-7046029254386353131 : Int64)))), .second, .val (.long (fn4 ((q1 + (-7046029254386353131 : Int64)) + (-7046029254386353131 : Int64)))), .second] [(.long (q1 + (4354685564936845354 : Int64))), (.long (fn5 (fn4 (q1 + (-7046029254386353131 : Int64)))))])) (fun t k => XS.ladd X9.here hx rfl (hb hby at_90) rfl k) ?_
  refine Goes.st (U' := T9.setTop (mkF m 92 #[.val (.long q1), .second, .val (.int (1 : Int32)), .val (.ref b3), .val (.long (fn4 q1)), .second, .val (.long (fn4 (q1 + (-7046029254386353131 : Int64)))), .second, .val (.long (fn4 ((q1 + (-7046029254386353131 : Int64)) + (-7046029254386353131 : Int64)))), .second] [(.int (lcmpW (fn5 (fn4 (q1 + (-7046029254386353131 : Int64)))) (q1 + (4354685564936845354 : Int64))))])) (fun t k => XS.lcmp X9.here hx rfl (hb hby at_91) rfl k) ?_
  refine Goes.st (U' := T9.setTop (mkF m 95 #[.val (.long q1), .second, .val (.int (1 : Int32)), .val (.ref b3), .val (.long (fn4 q1)), .second, .val (.long (fn4 (q1 + (-7046029254386353131 : Int64)))), .second, .val (.long (fn4 ((q1 + (-7046029254386353131 : Int64)) + (-7046029254386353131 : Int64)))), .second] [])) (fun t k => XS.ifNo X9.here hx rfl (hb hby at_92) rfl ((if0 _ _).trans (teq ((lw_eq _ _).mpr (own_two q1 : (fn5 (fn4 (q1 + (-7046029254386353131 : Int64)))) = (q1 + (4354685564936845354 : Int64))))).2) k) ?_
  refine Goes.st (U' := T9.setTop (mkF m 97 #[.val (.long q1), .second, .val (.int (1 : Int32)), .val (.ref b3), .val (.long (fn4 q1)), .second, .val (.long (fn4 (q1 + (-7046029254386353131 : Int64)))), .second, .val (.long (fn4 ((q1 + (-7046029254386353131 : Int64)) + (-7046029254386353131 : Int64)))), .second] [(.long (fn4 ((q1 + (-7046029254386353131 : Int64)) + (-7046029254386353131 : Int64))))])) (fun t k => XS.lload X9.here hx rfl (hb hby at_95) rfl k) ?_
  obtain ⟨_, _, ⟨T10, L10, k10, n10⟩, -, X10, ⟨Lc10, hQ10, l10, y10, z10⟩, st10⟩ := Jvm.LawKit.callS X9 hx (y := (⟨"com/example/spreadbook/spreadbook/io/SplitMix64NextPinLaw", "unmix", "(J)J"⟩ : MethodName)) hown (mvT hZ (hw _ (List.mem_of_getElem? (i := 26) rfl))) (mvT hZ (hw _ (List.mem_of_getElem? (i := 27) rfl))) (mvT hZ (hw _ (List.mem_of_getElem? (i := 3) rfl))) (mvT hZ (hw _ (List.mem_of_getElem? (i := 28) rfl))) (by decide) (backOf (W := 0) (rm5 l Z a0 hw [] (fn4 ((q1 + (-7046029254386353131 : Int64)) + (-7046029254386353131 : Int64))) T7.heap n0 (Nat.le_trans (Nat.le_trans (Nat.le_trans (Nat.le_trans (Nat.le_trans Z0 E3.1) K4.1) K5.1) K6.1) K7.1)) hZ (hw _ (List.mem_of_getElem? (i := 28) rfl)) (hw _ (List.mem_of_getElem? (i := 3) rfl)) (by decide) (by decide)) (g := (mkF m 97 #[.val (.long q1), .second, .val (.int (1 : Int32)), .val (.ref b3), .val (.long (fn4 q1)), .second, .val (.long (fn4 (q1 + (-7046029254386353131 : Int64)))), .second, .val (.long (fn4 ((q1 + (-7046029254386353131 : Int64)) + (-7046029254386353131 : Int64)))), .second] [(.long (fn4 ((q1 + (-7046029254386353131 : Int64)) + (-7046029254386353131 : Int64))))])) rfl (by rw [hml]; rfl) (argsL := [(.long (fn4 ((q1 + (-7046029254386353131 : Int64)) + (-7046029254386353131 : Int64))))]) (rest := []) (lenOf pd_0 rfl) rfl (by show 2 * 0 + _ ≤ _; exact Nat.le_of_eq rfl) (hb hby at_97) (fun _ _ => ⟨rfl, e9, (by decide : 1 + 0 ≤ _), (by decide : 1 + 0 ≤ _)⟩)
  dsimp only [Pt.U, Pt.locs, Pt.cells, Pt.slots] at X10 l10 y10 z10 st10 hQ10
  subst l10 y10 z10
  obtain ⟨rfl, N10q, e10⟩ := hQ10
  have N10 := Fr.app N9 N10q
  refine Goes.st (U' := T10.setTop (mkF m 100 #[.val (.long q1), .second, .val (.int (1 : Int32)), .val (.ref b3), .val (.long (fn4 q1)), .second, .val (.long (fn4 (q1 + (-7046029254386353131 : Int64)))), .second, .val (.long (fn4 ((q1 + (-7046029254386353131 : Int64)) + (-7046029254386353131 : Int64)))), .second] [(.long (fn5 (fn4 ((q1 + (-7046029254386353131 : Int64)) + (-7046029254386353131 : Int64)))))])) st10 ?_
  refine Goes.st (U' := T10.setTop (mkF m 101 #[.val (.long q1), .second, .val (.int (1 : Int32)), .val (.ref b3), .val (.long (fn4 q1)), .second, .val (.long (fn4 (q1 + (-7046029254386353131 : Int64)))), .second, .val (.long (fn4 ((q1 + (-7046029254386353131 : Int64)) + (-7046029254386353131 : Int64)))), .second] [(.long q1), (.long (fn5 (fn4 ((q1 + (-7046029254386353131 : Int64)) + (-7046029254386353131 : Int64)))))])) (fun t k => XS.lloadN X10.here hx rfl (hb hby at_100) rfl k) ?_
  refine Goes.st (U' := T10.setTop (mkF m 104 #[.val (.long q1), .second, .val (.int (1 : Int32)), .val (.ref b3), .val (.long (fn4 q1)), .second, .val (.long (fn4 (q1 + (-7046029254386353131 : Int64)))), .second, .val (.long (fn4 ((q1 + (-7046029254386353131 : Int64)) + (-7046029254386353131 : Int64)))), .second] [(.long (-2691343689449507777 : Int64)), (.long q1), (.long (fn5 (fn4 ((q1 + (-7046029254386353131 : Int64)) + (-7046029254386353131 : Int64)))))])) (fun t k => X10.ldc2Long hx hown (mvT hZ (hw _ (List.mem_of_getElem? (i := 31) rfl))) (g := (mkF m 101 #[.val (.long q1), .second, .val (.int (1 : Int32)), .val (.ref b3), .val (.long (fn4 q1)), .second, .val (.long (fn4 (q1 + (-7046029254386353131 : Int64)))), .second, .val (.long (fn4 ((q1 + (-7046029254386353131 : Int64)) + (-7046029254386353131 : Int64)))), .second] [(.long q1), (.long (fn5 (fn4 ((q1 + (-7046029254386353131 : Int64)) + (-7046029254386353131 : Int64)))))])) rfl (hb hby at_101) t k) ?_
  refine Goes.st (U' := T10.setTop (mkF m 105 #[.val (.long q1), .second, .val (.int (1 : Int32)), .val (.ref b3), .val (.long (fn4 q1)), .second, .val (.long (fn4 (q1 + (-7046029254386353131 : Int64)))), .second, .val (.long (fn4 ((q1 + (-7046029254386353131 : Int64)) + (-7046029254386353131 : Int64)))), .second] [(.long (q1 + (-2691343689449507777 : Int64))), (.long (fn5 (fn4 ((q1 + (-7046029254386353131 : Int64)) + (-7046029254386353131 : Int64)))))])) (fun t k => XS.ladd X10.here hx rfl (hb hby at_104) rfl k) ?_
  refine Goes.st (U' := T10.setTop (mkF m 106 #[.val (.long q1), .second, .val (.int (1 : Int32)), .val (.ref b3), .val (.long (fn4 q1)), .second, .val (.long (fn4 (q1 + (-7046029254386353131 : Int64)))), .second, .val (.long (fn4 ((q1 + (-7046029254386353131 : Int64)) + (-7046029254386353131 : Int64)))), .second] [(.int (lcmpW (fn5 (fn4 ((q1 + (-7046029254386353131 : Int64)) + (-7046029254386353131 : Int64)))) (q1 + (-2691343689449507777 : Int64))))])) (fun t k => XS.lcmp X10.here hx rfl (hb hby at_105) rfl k) ?_
  refine Goes.st (U' := T10.setTop (mkF m 109 #[.val (.long q1), .second, .val (.int (1 : Int32)), .val (.ref b3), .val (.long (fn4 q1)), .second, .val (.long (fn4 (q1 + (-7046029254386353131 : Int64)))), .second, .val (.long (fn4 ((q1 + (-7046029254386353131 : Int64)) + (-7046029254386353131 : Int64)))), .second] [])) (fun t k => XS.ifNo X10.here hx rfl (hb hby at_106) rfl ((if0 _ _).trans (teq ((lw_eq _ _).mpr (own_three q1 : (fn5 (fn4 ((q1 + (-7046029254386353131 : Int64)) + (-7046029254386353131 : Int64)))) = (q1 + (-2691343689449507777 : Int64))))).2) k) ?_
  refine Goes.st (U' := T10.setTop (mkF m 110 #[.val (.long q1), .second, .val (.int (1 : Int32)), .val (.ref b3), .val (.long (fn4 q1)), .second, .val (.long (fn4 (q1 + (-7046029254386353131 : Int64)))), .second, .val (.long (fn4 ((q1 + (-7046029254386353131 : Int64)) + (-7046029254386353131 : Int64)))), .second] [(.int (1 : Int32))])) (fun t k => XS.iconst X10.here hx rfl (hb hby at_109) k) ?_
  refine Goes.st (U' := T10.setTop (mkF m 114 #[.val (.long q1), .second, .val (.int (1 : Int32)), .val (.ref b3), .val (.long (fn4 q1)), .second, .val (.long (fn4 (q1 + (-7046029254386353131 : Int64)))), .second, .val (.long (fn4 ((q1 + (-7046029254386353131 : Int64)) + (-7046029254386353131 : Int64)))), .second] [(.int (1 : Int32))])) (fun t k => XS.goto X10.here hx rfl (pc0 := 110) (pc' := 114) rfl (hb hby at_110) (by decide) (by decide) k) ?_
  refine Goes.retZ X10 hx (BodyLoose.notSynchronized Bd) Bd.returns (hb hby at_114) rfl (by decide) (by decide) ?_
  show Q0 Z q1 h0 n0 _ T10.heap _
  rw [e10]
  exact ⟨rfl, N10⟩
set_option maxRecDepth 65536 in
set_option maxHeartbeats 40000000 in
theorem comes_1 {Post : Tables → Env → Array Value → State → Outcome → State → Prop} (hpost : ∀ tb e args s v u, (limb_1_1.after args s (.returned v) u = true ∧ limb_1_2.after args s (.returned v) u = true ∧ True) → FrameEnd s (.returned v) u (Jvm.fieldLocs frame_1_writes args s ++ Jvm.arrayLocs frame_1_arrays args s ++ Jvm.staticLocs frame_1_statics s) 16 128 → Post tb e args s (.returned v) u) :
    ArmFor flags0 classFile x code maxLocals ret World_1 tables_1 room_1 Calls_1 rest_1 Pre_1 Post := by
  intro l hfl _ _ p e ha hc hk s m args below hf hA hF happ hP
  obtain ⟨hcalls, hrest, hpre⟩ := hP
  obtain ⟨-, -, -, hnamed, -, -, -, hat⟩ := (Spec.applies_iff hf).mp happ
  obtain ⟨hg, hn⟩ := and_e (Cond.before_iff.mp (show (Jvm.Cond.and given_1 narrow_1).before args s = true from hpre))
  obtain ⟨gg1, gg2⟩ := and_e hg
  obtain ⟨w0, rfl⟩ : ∃ w0 : Value, args = #[w0] := by
    have hs : args.size = 1 := by simpa [Cond.value, given_1] using gg1
    obtain ⟨L⟩ := args
    match L, hs with
    | [w0], _ => exact ⟨w0, rfl⟩
  have hw := fun d (hd : d ∈ tables_1) => atoms_spec (ws := Jvm.Cond.code x code maxLocals ret :: tables_1) hat d (List.mem_cons_of_mem _ hd)
  obtain ⟨i0, ei0⟩ := isL_v gg2
  obtain rfl : w0 = (.long i0) := Option.some.inj ei0
  obtain ⟨n, o, h1, h2, h3, v, L, rfl, hQ, hq⟩ := rm0 l s _ hw tables_1 i0 s.heap s.heap.size (Nat.le_refl _) p e ha hc hk s m _ below hf ((Spec.applies_iff_loose hf).mp happ).1 ⟨rfl, State.Warmed39.refl s, rfl⟩ trivial
  obtain ⟨rfl, N⟩ := hQ
  exact ⟨n, _, h1, h2, h3, hpost _ _ _ _ _ _ ⟨Cond.after_iff.mpr rfl, Cond.after_iff.mpr (eq_i res_at (Term.int_eval (1)) rfl), trivial⟩ ⟨hq.1, hq.2.1, (hq.2.2.sift fun y hy => Or.inr (N y hy)).mono (by decide) (by decide)⟩⟩
theorem main_1_1 : Claimed_1_1 := comes_1 fun _ _ _ _ _ _ h hF => ⟨h.1, hF⟩
theorem main_1_2 : Claimed_1_2 := comes_1 fun _ _ _ _ _ _ h hF => ⟨h.2.1, hF⟩
end Jvm.Pilot.@@N@@
namespace Jvm.Pilot.@@N@@
open Jvm Jvm.ClassFile Sem Op Lib Jvm.Free Jvm.Stand Jvm.Pilot.@@N@@.Jvm.D
/-! MADE BY PROGRAM (witnessworld.py) out of the Statement's table words and the real class files: 9 classes; the members and pool entries that the words name. The judged class is class 1, her method 3. -/
namespace start1
open Jvm.ClassFile
def u (s : String) : CpInfo := .utf8 (stringToUtf16 s)
/-- a pool by its gaps: so many unusable entries, then the entry; so many at the end -/
def gap : Nat → List CpInfo → List CpInfo
  | 0, r => r
  | n + 1, r => .unusable :: gap n r
def poolList (es : List (Nat × CpInfo)) (last : Nat) : List CpInfo := es.foldr (fun e r => gap e.1 (e.2 :: r)) (gap last [])
def pool (es : List (Nat × CpInfo)) (last : Nat) : Array CpInfo := ⟨poolList es last⟩
def fileOf (pool : Array CpInfo) (this : Nat) (attrs : Array Attribute := #[]) (ms : Array MethodInfo := #[]) (fl : Nat := 33) (sup : Nat := 0) (ifs : Array Nat := #[]) (fds : Array FieldInfo := #[]) : ClassFile where
  minorVersion := 0
  majorVersion := 65
  constantPool := pool
  accessFlags := fl
  thisClass := this
  superClass := sup
  interfaces := ifs
  fields := fds
  methods := ms
  attributes := attrs
def plain (name : String) (sup : Option ClassId) : Class where
  name := name
  kind := .ordinary
  loader := none
  accessFlags := 33
  super := sup
  interfaces := #[]
  cf := none
  fields := #[]
  methods := #[]
  instanceTypes := #[]
  staticTypes := #[]
  resolved := #[]
  callSites := []
  init := .initialized
  statics := none
  mirror := none

def pool0 : Array CpInfo := pool [(5, u "<init>"), (0, u "()V"), (1, .class_ 10), (1, u "java/lang/Object")] 113

def k0c0 : Code := { maxStack := 0, maxLocals := 1, code := object_method_1_code, exceptionTable := #[], attributes := #[] }
def k0m0 : Method := { name := "<init>", desc := "()V", sig := { parameters := [], returnType := none }, accessFlags := 1, code := some k0c0 }
/-- java/lang/Object -/
def k0 : Class := { plain "java/lang/Object" none with
  accessFlags := 33
  interfaces := #[]
  cf := some (fileOf pool0 8 #[] #[{ accessFlags := 1, nameIndex := 5, descriptorIndex := 6, attributes := #[] }] 33 0 #[] #[])
  fields := #[]
  methods := #[k0m0]
  instanceTypes := #[]
  staticTypes := #[]
  resolved := Array.replicate 124 none
  statics := none }

def pool1 : Array CpInfo := pool [(2, .class_ 4), (1, u "java/lang/Object"), (0, u "<init>"), (0, u "()V"), (0, .long 2), (1, .class_ 10), (0, u "com/example/spreadbook/spreadbook/io/SplitMix64NextPinLaw"), (0, .long 10723151780598845931), (1, .methodref 9 14), (0, .nameAndType 15 16), (0, u "inverseOdd"), (0, u "(J)J"), (0, .long 13787848793156543929), (1, .class_ 20), (0, u "com/example/spreadbook/spreadbook/io/SplitMix64"), (0, .methodref 19 22), (0, .nameAndType 5 23), (0, u "(J)V"), (0, .methodref 19 25), (0, .nameAndType 26 27), (0, u "next"), (0, u "()J"), (0, .methodref 9 29), (0, .nameAndType 30 16), (0, u "unmix"), (0, .long 11400714819323198485), (1, .long 4354685564936845354), (1, .long 15755400384260043839), (1, u "GAMMA"), (0, u "J"), (1, u "MIX_1"), (0, u "MIX_2"), (2, u "law"), (0, u "(J)Z")] 3

def k1m0 : Method := { name := "<init>", desc := "()V", sig := { parameters := [], returnType := none }, accessFlags := 1, code := none }
def k1c1 : Code := { maxStack := 8, maxLocals := 4, code := method_2_code, exceptionTable := #[], attributes := #[] }
def k1m1 : Method := { name := "inverseOdd", desc := "(J)J", sig := { parameters := [.long], returnType := some .long }, accessFlags := 10, code := some k1c1 }
def k1c2 : Code := { maxStack := 5, maxLocals := 4, code := method_3_code, exceptionTable := #[], attributes := #[] }
def k1m2 : Method := { name := "unmix", desc := "(J)J", sig := { parameters := [.long], returnType := some .long }, accessFlags := 10, code := some k1c2 }
def k1c3 : Code := { maxStack := 6, maxLocals := 10, code := code, exceptionTable := #[], attributes := #[] }
def k1m3 : Method := { name := "law", desc := "(J)Z", sig := { parameters := [.long], returnType := some .boolean }, accessFlags := 9, code := some k1c3 }
/-- com/example/spreadbook/spreadbook/io/SplitMix64NextPinLaw -/
def k1 : Class := { plain "com/example/spreadbook/spreadbook/io/SplitMix64NextPinLaw" (some 0) with
  accessFlags := 49
  interfaces := #[]
  cf := some (fileOf pool1 9 #[] #[{ accessFlags := 1, nameIndex := 5, descriptorIndex := 6, attributes := #[] }, { accessFlags := 10, nameIndex := 15, descriptorIndex := 16, attributes := #[] }, { accessFlags := 10, nameIndex := 30, descriptorIndex := 16, attributes := #[] }, { accessFlags := 9, nameIndex := 44, descriptorIndex := 45, attributes := #[] }] 49 2 #[] #[{ accessFlags := 26, nameIndex := 37, descriptorIndex := 38, attributes := #[] }, { accessFlags := 26, nameIndex := 40, descriptorIndex := 38, attributes := #[] }, { accessFlags := 26, nameIndex := 41, descriptorIndex := 38, attributes := #[] }])
  fields := #[{ name := "GAMMA", type := .long, accessFlags := 26, slot := 0, constantValue := 0 }, { name := "MIX_1", type := .long, accessFlags := 26, slot := 1, constantValue := 0 }, { name := "MIX_2", type := .long, accessFlags := 26, slot := 2, constantValue := 0 }]
  methods := #[k1m0, k1m1, k1m2, k1m3]
  instanceTypes := #[]
  staticTypes := #[.long, .long, .long]
  resolved := Array.replicate 49 none
  statics := none }

def pool2 : Array CpInfo := pool [(1, .methodref 2 3), (0, .class_ 4), (0, .nameAndType 5 6), (0, u "java/lang/Object"), (0, u "<init>"), (0, u "()V"), (0, .fieldref 8 9), (0, .class_ 10), (0, .nameAndType 11 12), (0, u "com/example/spreadbook/spreadbook/io/SplitMix64"), (0, u "state"), (0, u "J"), (0, .long 11400714819323198485), (1, .long 13787848793156543929), (1, .long 10723151780598845931), (3, u "next"), (0, u "()J"), (6, u "GAMMA"), (1, u "MIX_1"), (0, u "MIX_2"), (0, u "(J)V")] 6

def k2c0 : Code := { maxStack := 3, maxLocals := 3, code := prog_62_method_1_code, exceptionTable := #[], attributes := #[] }
def k2m0 : Method := { name := "<init>", desc := "(J)V", sig := { parameters := [.long], returnType := none }, accessFlags := 0, code := some k2c0 }
def k2c1 : Code := { maxStack := 5, maxLocals := 3, code := prog_62_method_2_code, exceptionTable := #[], attributes := #[] }
def k2m1 : Method := { name := "next", desc := "()J", sig := { parameters := [], returnType := some .long }, accessFlags := 0, code := some k2c1 }
/-- com/example/spreadbook/spreadbook/io/SplitMix64 -/
def k2 : Class := { plain "com/example/spreadbook/spreadbook/io/SplitMix64" (some 0) with
  accessFlags := 48
  interfaces := #[]
  cf := some (fileOf pool2 8 #[] #[{ accessFlags := 0, nameIndex := 5, descriptorIndex := 33, attributes := #[] }, { accessFlags := 0, nameIndex := 21, descriptorIndex := 22, attributes := #[] }] 48 2 #[] #[{ accessFlags := 26, nameIndex := 29, descriptorIndex := 12, attributes := #[] }, { accessFlags := 26, nameIndex := 31, descriptorIndex := 12, attributes := #[] }, { accessFlags := 26, nameIndex := 32, descriptorIndex := 12, attributes := #[] }, { accessFlags := 2, nameIndex := 11, descriptorIndex := 12, attributes := #[] }])
  fields := #[{ name := "GAMMA", type := .long, accessFlags := 26, slot := 0, constantValue := 0 }, { name := "MIX_1", type := .long, accessFlags := 26, slot := 1, constantValue := 0 }, { name := "MIX_2", type := .long, accessFlags := 26, slot := 2, constantValue := 0 }, { name := "state", type := .long, accessFlags := 2, slot := 0, constantValue := 0 }]
  methods := #[k2m0, k2m1]
  instanceTypes := #[.long]
  staticTypes := #[.long, .long, .long]
  resolved := Array.replicate 40 none
  statics := none }

def pool3 : Array CpInfo := pool [(1, u "java/lang/Cloneable"), (0, .class_ 1), (0, u "java/lang/Object"), (0, .class_ 3)] 3

/-- java/lang/Cloneable -/
def k3 : Class := { plain "java/lang/Cloneable" (some 0) with
  accessFlags := 1537
  interfaces := #[]
  cf := some (fileOf pool3 2 #[] #[] 1537 4 #[] #[])
  fields := #[]
  methods := #[]
  instanceTypes := #[]
  staticTypes := #[]
  resolved := Array.replicate 8 none
  statics := none }

def pool4 : Array CpInfo := pool [(1, u "java/io/Serializable"), (0, .class_ 1), (0, u "java/lang/Object"), (0, .class_ 3)] 3

/-- java/io/Serializable -/
def k4 : Class := { plain "java/io/Serializable" (some 0) with
  accessFlags := 1537
  interfaces := #[]
  cf := some (fileOf pool4 2 #[] #[] 1537 4 #[] #[])
  fields := #[]
  methods := #[]
  instanceTypes := #[]
  staticTypes := #[]
  resolved := Array.replicate 8 none
  statics := none }

/-- the primitive byte -/
def k5 : Class := { plain "byte" none with kind := .primitive 'B', accessFlags := 0x411 }
/-- [B -/
def k6 : Class := { plain "[B" (some 0) with kind := .array 5 .byte, interfaces := #[3, 4], accessFlags := 1041 }

/-- the primitive int -/
def k7 : Class := { plain "int" none with kind := .primitive 'I', accessFlags := 0x411 }
/-- [I -/
def k8 : Class := { plain "[I" (some 0) with kind := .array 7 .int, interfaces := #[3, 4], accessFlags := 1041 }

def heap : Heap := #[]
def classes : Array Class := #[k0, k1, k2, k3, k4, k5, k6, k7, k8]
def interned : List (Array UInt16 × Addr) := []
def slotsUsed : Nat := 0
def theMethod : MethodId := ⟨1, 3⟩
def args0 : Array Value := #[.long 5]
def aboutOver (below : List Frame) : State where
  vm := { classes := classes, interned := interned.toArray }
  heap := heap
  slotsUsed := slotsUsed
  threads := #[{ frames := .invoking theMethod args0 :: below }]
def below0 : List Frame := [.native { method := ⟨0, 0⟩, args := #[] }]
def about1 : State := aboutOver below0
def p0 : Program := .bare "" "" ""
def e0 : Env := launch0.env 0 0 0
theorem w_frames : about1.frames = Frame.invoking theMethod args0 :: below0 := rfl
set_option maxRecDepth 65536 in
theorem w_args : argsFit about1.vm theMethod args0 = true := by decide +kernel
set_option maxRecDepth 65536 in
theorem w_heap : heapFits about1 = true := by decide +kernel
set_option maxRecDepth 65536 in
theorem w_runnable : about1.curStatus? = some .runnable := by decide +kernel
set_option maxRecDepth 65536 in
theorem w_alone : about1.alone = true := by decide +kernel
set_option maxRecDepth 65536 in
theorem w_named : about1.methodNamed? x = some theMethod := by decide +kernel
set_option maxRecDepth 65536 in
theorem w_hears : about1.hears theMethod below0 = true := by decide +kernel
set_option maxRecDepth 65536 in
theorem w_ripe : about1.ripe theMethod args0 below0 = true := by decide +kernel
theorem w_running : about1.status = .running := rfl
set_option maxRecDepth 65536 in
theorem w_room : about1.hasRoom e0.platform room_1 = true :=
  launch0.hasRoom_least _ room_1 (by decide +kernel) (by decide +kernel) (by decide +kernel) (by decide +kernel) (by decide +kernel) (by decide +kernel)
theorem allAtoms_all (ts : List Jvm.Cond) (a : Array Jvm.Value) (st : Jvm.State) : (allAtoms ts).before a st = ts.all (fun c => c.before a st) := by
  induction ts with
  | nil => rfl
  | cons c t ih =>
    show (Jvm.Cond.and c (allAtoms t)).before a st = _
    rw [Jvm.Cond.before_and, ih, List.all_cons]
def words1 : List Jvm.Cond := Jvm.Cond.code x code maxLocals ret :: tables_1
/-- a 'code' word, met by the world's own term for the bytes: nothing is compared byte by byte -/
theorem code_word {y : MethodName} {bytes : ByteArray} {mx : Nat} {rt : Option FieldType} {a : Array Value} {s : State} {m : MethodId} {meth : Method} {c : Code} (h1 : s.methodNamed? y = some m) (h2 : s.vm.method? m = some meth) (h3 : meth.code = some c) (h4 : c.code = bytes)
    (h5 : (c.maxLocals == mx && c.exceptionTable.isEmpty && decide (c.maxStack ≤ mostOperands) && decide (meth.sig.returnType = rt) && !meth.locks && decide (parseMethodDescriptor y.desc = some meth.sig)) = true) : (Jvm.Cond.code y bytes mx rt).before a s = true := by
  simp only [Bool.and_eq_true, beq_iff_eq, Bool.not_eq_true', decide_eq_true_eq] at h5
  obtain ⟨⟨⟨⟨⟨g1, g2⟩, g3⟩, g4⟩, g5⟩, g6⟩ := h5
  simp [Cond.before, Cond.holds, Cond.value, h1, h2, h3, h4, g1, g2, g3, g4, g5, g6]
def isCode : Jvm.Cond → Bool
  | .code _ _ _ _ => true
  | _ => false
theorem all_split {L : List Jvm.Cond} {P : Jvm.Cond → Bool} (h1 : L.all (fun c => isCode c || P c) = true) (h2 : ∀ c ∈ L.filter isCode, P c = true) : L.all P = true := by
  refine List.all_eq_true.mpr fun c hc => ?_
  have h := List.all_eq_true.mp h1 c hc
  rcases Bool.eq_false_or_eq_true (isCode c) with hi | hi
  · exact h2 c (List.mem_filter.mpr ⟨hc, hi⟩)
  · simpa [hi] using h
set_option maxRecDepth 65536 in
theorem w_c0 : (Jvm.Cond.code x code maxLocals ret).before args0 about1 = true := code_word (m := ⟨1, 3⟩) (meth := k1m3) (c := k1c3) (by decide +kernel) rfl rfl rfl (by decide +kernel)
set_option maxRecDepth 65536 in
theorem w_c1 : (Jvm.Cond.code ({ cls := "com/example/spreadbook/spreadbook/io/SplitMix64NextPinLaw", name := "inverseOdd", desc := "(J)J" } : Jvm.MethodName) method_2_code (4 : Nat) (Option.some Jvm.ClassFile.FieldType.long)).before args0 about1 = true := code_word (m := ⟨1, 1⟩) (meth := k1m1) (c := k1c1) (by decide +kernel) rfl rfl rfl (by decide +kernel)
set_option maxRecDepth 65536 in
theorem w_c2 : (Jvm.Cond.code ({ cls := "com/example/spreadbook/spreadbook/io/SplitMix64", name := "<init>", desc := "(J)V" } : Jvm.MethodName) prog_62_method_1_code (3 : Nat) (Option.none : Option Jvm.ClassFile.FieldType)).before args0 about1 = true := code_word (m := ⟨2, 0⟩) (meth := k2m0) (c := k2c0) (by decide +kernel) rfl rfl rfl (by decide +kernel)
set_option maxRecDepth 65536 in
theorem w_c3 : (Jvm.Cond.code ({ cls := "java/lang/Object", name := "<init>", desc := "()V" } : Jvm.MethodName) object_method_1_code (1 : Nat) (Option.none : Option Jvm.ClassFile.FieldType)).before args0 about1 = true := code_word (m := ⟨0, 0⟩) (meth := k0m0) (c := k0c0) (by decide +kernel) rfl rfl rfl (by decide +kernel)
set_option maxRecDepth 65536 in
theorem w_c4 : (Jvm.Cond.code ({ cls := "com/example/spreadbook/spreadbook/io/SplitMix64", name := "next", desc := "()J" } : Jvm.MethodName) prog_62_method_2_code (3 : Nat) (Option.some Jvm.ClassFile.FieldType.long)).before args0 about1 = true := code_word (m := ⟨2, 1⟩) (meth := k2m1) (c := k2c1) (by decide +kernel) rfl rfl rfl (by decide +kernel)
set_option maxRecDepth 65536 in
theorem w_c5 : (Jvm.Cond.code ({ cls := "com/example/spreadbook/spreadbook/io/SplitMix64NextPinLaw", name := "unmix", desc := "(J)J" } : Jvm.MethodName) method_3_code (4 : Nat) (Option.some Jvm.ClassFile.FieldType.long)).before args0 about1 = true := code_word (m := ⟨1, 2⟩) (meth := k1m2) (c := k1c2) (by decide +kernel) rfl rfl rfl (by decide +kernel)
def codes1 : List Jvm.Cond := [Jvm.Cond.code x code maxLocals ret, Jvm.Cond.code ({ cls := "com/example/spreadbook/spreadbook/io/SplitMix64NextPinLaw", name := "inverseOdd", desc := "(J)J" } : Jvm.MethodName) method_2_code (4 : Nat) (Option.some Jvm.ClassFile.FieldType.long), Jvm.Cond.code ({ cls := "com/example/spreadbook/spreadbook/io/SplitMix64", name := "<init>", desc := "(J)V" } : Jvm.MethodName) prog_62_method_1_code (3 : Nat) (Option.none : Option Jvm.ClassFile.FieldType), Jvm.Cond.code ({ cls := "java/lang/Object", name := "<init>", desc := "()V" } : Jvm.MethodName) object_method_1_code (1 : Nat) (Option.none : Option Jvm.ClassFile.FieldType), Jvm.Cond.code ({ cls := "com/example/spreadbook/spreadbook/io/SplitMix64", name := "next", desc := "()J" } : Jvm.MethodName) prog_62_method_2_code (3 : Nat) (Option.some Jvm.ClassFile.FieldType.long), Jvm.Cond.code ({ cls := "com/example/spreadbook/spreadbook/io/SplitMix64NextPinLaw", name := "unmix", desc := "(J)J" } : Jvm.MethodName) method_3_code (4 : Nat) (Option.some Jvm.ClassFile.FieldType.long)]
set_option maxRecDepth 65536 in
theorem codes_eq : words1.filter isCode = codes1 := rfl
theorem w_codes : ∀ c ∈ words1.filter isCode, c.before args0 about1 = true := by
  rw [codes_eq]
  intro c hc
  simp only [codes1, List.mem_cons, List.not_mem_nil, or_false] at hc
  rcases hc with rfl | rfl | rfl | rfl | rfl | rfl
  · exact w_c0
  · exact w_c1
  · exact w_c2
  · exact w_c3
  · exact w_c4
  · exact w_c5
set_option maxRecDepth 65536 in
theorem w_t1 : (words1.take 24).all (fun c => isCode c || c.before args0 about1) = true := by decide +kernel
set_option maxRecDepth 65536 in
theorem w_t2 : (words1.drop 24).all (fun c => isCode c || c.before args0 about1) = true := by decide +kernel
theorem w_tables : (allAtoms (Jvm.Cond.code x code maxLocals ret :: tables_1)).before args0 about1 = true := by
  rw [allAtoms_all]
  show words1.all (fun c => c.before args0 about1) = true
  refine all_split ?_ w_codes
  rw [← List.take_append_drop 24 words1, List.all_append, w_t1, w_t2]
  rfl
set_option maxRecDepth 65536 in
theorem w_case : (Jvm.Cond.and given_1 narrow_1).before args0 about1 = true := by decide +kernel
theorem w_applies : (headSpec (Jvm.Cond.code x code maxLocals ret :: tables_1) room_1).applies x e0.platform about1 = true :=
  (Spec.applies_iff w_frames).mpr ⟨w_running, w_runnable, w_alone, w_named, w_hears, w_ripe, w_room, w_tables⟩
theorem atStart : AtStart classFile x code maxLocals ret World_1 tables_1 room_1 Calls_1 rest_1 Pre_1 launch0 p0 e0 about1 theMethod args0 below0 :=
  ⟨lists_1, trivial, launch0.admits_env _ _ _, launch0.least_env, fairChoices_fair.cas, fairChoices_fair.clock, w_frames, w_args, w_heap, w_applies, trivial, trivial, w_case⟩
end start1
theorem witness_1 : WitnessClaimed_1 := ⟨start1.p0, start1.e0, start1.about1, start1.theMethod, start1.args0, start1.below0, start1.atStart⟩
end Jvm.Pilot.@@N@@
