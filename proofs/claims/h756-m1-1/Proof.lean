import JvmDerived
import JvmDerived.Pilot.@@N@@Statement
import JvmDerived.Pilot.@@N@@Code
set_option linter.unusedVariables false
set_option linter.unusedSimpArgs false
namespace Jvm.Pilot.@@N@@
open Jvm Jvm.ClassFile Sem Op Lib Jvm.Free Jvm.Stand Jvm.LawKit Jvm.RoadKit Bundle Jvm.Pilot.@@N@@.Jvm.D
/-! OWN PRELUDE: a walk in continuation form: 'Goes .. U': from U on the body comes to its return, with Q -/
section OwnPrelude
variable {p : Program} {l : Launch} {e : Env} {R : Room} {s : State} {m : MethodId} {args : Array Value} {below : List Frame} {meth : Method} {c : Code} {T U U' : State} {locs : List Loc} {cells slots ce sl : Nat} {Q : Option Value → Heap → List Loc → Prop}
def Goes (p : Program) (e : Env) (s : State) (below : List Frame) (Q : Option Value → Heap → List Loc → Prop) (ce sl : Nat) (U : State) : Prop :=
  ∃ t o, Steps p.tables e below U t ∧ t.status = .running ∧ Ended t below o ∧ ∃ v L, o = .returned v ∧ Q v t.heap L ∧ FrameEnd s o t L ce sl
theorem Goes.st (h : ∀ t, Steps p.tables e below U' t → Steps p.tables e below U t) (k : Goes p e s below Q ce sl U') : Goes p e s below Q ce sl U := by
  obtain ⟨t, o, h1, r⟩ := k
  exact ⟨t, o, h t h1, r⟩
theorem Goes.tr (h : Steps p.tables e below U U') (k : Goes p e s below Q ce sl U') : Goes p e s below Q ce sl U := by
  obtain ⟨t, o, h1, r⟩ := k
  exact ⟨t, o, h.trans h1, r⟩
theorem Goes.out (X : Stand p l e R s m args below meth c T locs cells slots) (hlocks : meth.locks = false) {v : Option Value} (hv : meth.sig.returnType = none → v = none) (hc : cells ≤ ce) (hs : slots ≤ sl) (hq : Q v T.heap locs)
    (k : ∀ fs, (∀ (f : JFrame) (acts : List Action), f.method = m → f.locked = none → f.entered = [] → (doReturn e (T.setTop f) acts v).1 = T.setFrames fs) → Steps p.tables e below U (T.setFrames fs)) : Goes p e s below Q ce sl U := by
  obtain ⟨fs, hr, hrun, hended, hW, hsame⟩ := X.leave (v := v) hv hlocks
  exact ⟨_, _, k fs hr, hrun, hended, _, _, rfl, hq, ⟨_, rfl⟩, hW, hsame.mono hc hs⟩
theorem Goes.retI (X : Stand p l e R s m args below meth c T locs cells slots) (hx : p.tables.exec = Jvm.exec) (hlocks : meth.locks = false) {pc : Nat} {Ls : Array Slot} {z : Int32} {rest : List Value} (hret : meth.sig.returnType = some .int) (hd : decode c.code pc = .ok (.ireturn, 1))
    (hc : cells ≤ ce) (hs : slots ≤ sl) (hq : Q (some (.int z)) T.heap locs) : Goes p e s below Q ce sl (T.setTop (mkF m pc Ls (.int z :: rest))) :=
  Goes.out X hlocks (fun h => by rw [hret] at h; cases h) hc hs hq fun fs hl => retOut X hx hret rfl (Or.inl ⟨rfl, Or.inl rfl, _, rfl⟩) hd hl
theorem Goes.retZ (X : Stand p l e R s m args below meth c T locs cells slots) (hx : p.tables.exec = Jvm.exec) (hlocks : meth.locks = false) {pc : Nat} {Ls : Array Slot} {z : Int32} {rest : List Value} (hret : meth.sig.returnType = some .boolean) (hd : decode c.code pc = .ok (.ireturn, 1))
    (hz : z &&& 1 = z) (hc : cells ≤ ce) (hs : slots ≤ sl) (hq : Q (some (.int z)) T.heap locs) : Goes p e s below Q ce sl (T.setTop (mkF m pc Ls (.int z :: rest))) :=
  Goes.out X hlocks (fun h => by rw [hret] at h; cases h) hc hs hq fun fs hl => retOut X hx hret (by show Value.int (z &&& 1) = _; rw [hz]) (Or.inl ⟨rfl, Or.inr (Or.inl rfl), _, rfl⟩) hd hl
theorem Goes.retJ (X : Stand p l e R s m args below meth c T locs cells slots) (hx : p.tables.exec = Jvm.exec) (hlocks : meth.locks = false) {pc : Nat} {Ls : Array Slot} {z : Int64} {rest : List Value} (hret : meth.sig.returnType = some .long) (hd : decode c.code pc = .ok (.lreturn, 1))
    (hc : cells ≤ ce) (hs : slots ≤ sl) (hq : Q (some (.long z)) T.heap locs) : Goes p e s below Q ce sl (T.setTop (mkF m pc Ls (.long z :: rest))) :=
  Goes.out X hlocks (fun h => by rw [hret] at h; cases h) hc hs hq fun fs hl => retOut X hx hret rfl (Or.inr (Or.inl ⟨rfl, rfl, _, rfl⟩)) hd hl
theorem Goes.retA (X : Stand p l e R s m args below meth c T locs cells slots) (hx : p.tables.exec = Jvm.exec) (hlocks : meth.locks = false) {pc : Nat} {Ls : Array Slot} {w : Value} {t : FieldType} {rest : List Value} (hret : meth.sig.returnType = some t) (hd : decode c.code pc = .ok (.areturn, 1))
    (ht : t.isReference = true) (hw : w.isRef = true) (hn : narrow t w = w) (hc : cells ≤ ce) (hs : slots ≤ sl) (hq : Q (some w) T.heap locs) : Goes p e s below Q ce sl (T.setTop (mkF m pc Ls (w :: rest))) :=
  Goes.out X hlocks (fun h => by rw [hret] at h; cases h) hc hs hq fun fs hl => retOut X hx hret hn (Or.inr (Or.inr (Or.inr (Or.inr ⟨rfl, ht, hw⟩)))) hd hl
theorem Goes.retV (X : Stand p l e R s m args below meth c T locs cells slots) (hx : p.tables.exec = Jvm.exec) (hlocks : meth.locks = false) {pc : Nat} {Ls : Array Slot} (hret : meth.sig.returnType = none) (hd : decode c.code pc = .ok (.return_, 1))
    (hc : cells ≤ ce) (hs : slots ≤ sl) (hq : Q none T.heap locs) : Goes p e s below Q ce sl (T.setTop (mkF m pc Ls [])) :=
  Goes.out X hlocks (fun _ => rfl) hc hs hq fun fs hl => X.returnOut hx hret hd hl
/-- a boolean as the machine has it -/
def b2i (b : Bool) : Int32 := if b then 1 else 0
theorem b2i_one (b : Bool) : b2i b &&& 1 = b2i b := by cases b <;> rfl
theorem b2i_t {b : Bool} (h : ¬ b2i b = 0) : b = true := by cases b; exact absurd rfl h; rfl
theorem b2i_f {b : Bool} (h : b2i b = 0) : b = false := by cases b; rfl; exact absurd h (by decide)
theorem Exa_ns {Z : State} {h : Heap} {a : Addr} {C : String} (E : Exa Z h a C) : ∀ cell : Cell, h[a]? = some cell → cell.vm.isStatics = false := fun cell hc => by
  obtain ⟨c1, _, h1, -, -, h4, -⟩ := E
  cases h1.symm.trans hc
  exact h4
theorem Sta_keep {Z : State} {h h' : Heap} {C n d : String} {v : Value} {ws : List Addr} (F : Sta Z h C n d v) (K : Keep h h' ws) (q : ∀ x ∈ ws, ∀ cell : Cell, h[x]? = some cell → cell.vm.isStatics = false) : Sta Z h' C n d v := by
  obtain ⟨cf, i, k, f, st, cell, h1, h2, h3, h4, h5, h6, h7⟩ := F
  exact ⟨cf, i, k, f, st, cell, h1, h2, h3, h4, K.2.1 _ _ h5 (fun y => by have := q _ y _ h5; rw [h6] at this; cases this), h6, h7⟩
theorem own_selp {u : State} {as : Array Value} {y : MethodName} {n : Nat} (hins : (Cond.instantiable y.cls n).before as u = true) (hpriv : u.PrivateAt y) (hinst : (Cond.instanceMethod y).before as u = true) (hy : y.cls ≠ "java/lang/invoke/MethodHandle" ∧ y.cls ≠ "java/lang/invoke/VarHandle") : (Cond.selects y.cls y y).before as u = true := by
  obtain ⟨c, k, hc, hk, -, hniab, -, -⟩ := Cond.instantiable_spec hins
  exact selects_self_of_private hc hk (Bool.or_eq_false_iff.mp hniab).1 hpriv hinst hy
end OwnPrelude

theorem d1_0 : decode method_2_code 0 = .ok (.lload_n 0, 1) := by decide +kernel
theorem d1_1 : decode method_2_code 1 = .ok (.lstore_n 2, 1) := by decide +kernel
theorem d1_2 : decode method_2_code 2 = .ok (.lload_n 2, 1) := by decide +kernel
theorem d1_3 : decode method_2_code 3 = .ok (.ldc2_w 7, 3) := by decide +kernel
theorem d1_6 : decode method_2_code 6 = .ok (.lload_n 0, 1) := by decide +kernel
theorem d1_7 : decode method_2_code 7 = .ok (.lload_n 2, 1) := by decide +kernel
theorem d1_8 : decode method_2_code 8 = .ok (.lmul, 1) := by decide +kernel
theorem d1_9 : decode method_2_code 9 = .ok (.lsub, 1) := by decide +kernel
theorem d1_10 : decode method_2_code 10 = .ok (.lmul, 1) := by decide +kernel
theorem d1_11 : decode method_2_code 11 = .ok (.lstore_n 2, 1) := by decide +kernel
theorem d1_12 : decode method_2_code 12 = .ok (.lload_n 2, 1) := by decide +kernel
theorem d1_13 : decode method_2_code 13 = .ok (.ldc2_w 7, 3) := by decide +kernel
theorem d1_16 : decode method_2_code 16 = .ok (.lload_n 0, 1) := by decide +kernel
theorem d1_17 : decode method_2_code 17 = .ok (.lload_n 2, 1) := by decide +kernel
theorem d1_18 : decode method_2_code 18 = .ok (.lmul, 1) := by decide +kernel
theorem d1_19 : decode method_2_code 19 = .ok (.lsub, 1) := by decide +kernel
theorem d1_20 : decode method_2_code 20 = .ok (.lmul, 1) := by decide +kernel
theorem d1_21 : decode method_2_code 21 = .ok (.lstore_n 2, 1) := by decide +kernel
theorem d1_22 : decode method_2_code 22 = .ok (.lload_n 2, 1) := by decide +kernel
theorem d1_23 : decode method_2_code 23 = .ok (.ldc2_w 7, 3) := by decide +kernel
theorem d1_26 : decode method_2_code 26 = .ok (.lload_n 0, 1) := by decide +kernel
theorem d1_27 : decode method_2_code 27 = .ok (.lload_n 2, 1) := by decide +kernel
theorem d1_28 : decode method_2_code 28 = .ok (.lmul, 1) := by decide +kernel
theorem d1_29 : decode method_2_code 29 = .ok (.lsub, 1) := by decide +kernel
theorem d1_30 : decode method_2_code 30 = .ok (.lmul, 1) := by decide +kernel
theorem d1_31 : decode method_2_code 31 = .ok (.lstore_n 2, 1) := by decide +kernel
theorem d1_32 : decode method_2_code 32 = .ok (.lload_n 2, 1) := by decide +kernel
theorem d1_33 : decode method_2_code 33 = .ok (.ldc2_w 7, 3) := by decide +kernel
theorem d1_36 : decode method_2_code 36 = .ok (.lload_n 0, 1) := by decide +kernel
theorem d1_37 : decode method_2_code 37 = .ok (.lload_n 2, 1) := by decide +kernel
theorem d1_38 : decode method_2_code 38 = .ok (.lmul, 1) := by decide +kernel
theorem d1_39 : decode method_2_code 39 = .ok (.lsub, 1) := by decide +kernel
theorem d1_40 : decode method_2_code 40 = .ok (.lmul, 1) := by decide +kernel
theorem d1_41 : decode method_2_code 41 = .ok (.lstore_n 2, 1) := by decide +kernel
theorem d1_42 : decode method_2_code 42 = .ok (.lload_n 2, 1) := by decide +kernel
theorem d1_43 : decode method_2_code 43 = .ok (.ldc2_w 7, 3) := by decide +kernel
theorem d1_46 : decode method_2_code 46 = .ok (.lload_n 0, 1) := by decide +kernel
theorem d1_47 : decode method_2_code 47 = .ok (.lload_n 2, 1) := by decide +kernel
theorem d1_48 : decode method_2_code 48 = .ok (.lmul, 1) := by decide +kernel
theorem d1_49 : decode method_2_code 49 = .ok (.lsub, 1) := by decide +kernel
theorem d1_50 : decode method_2_code 50 = .ok (.lmul, 1) := by decide +kernel
theorem d1_51 : decode method_2_code 51 = .ok (.lstore_n 2, 1) := by decide +kernel
theorem d1_52 : decode method_2_code 52 = .ok (.lload_n 2, 1) := by decide +kernel
theorem d1_53 : decode method_2_code 53 = .ok (.lreturn, 1) := by decide +kernel
theorem pn_0 : plainName "reelwright/hash/Xxh3CoreAvalanche64PinLaw" = true := by first | (simp [plainName, overriddenIn]; done) | decide +kernel
theorem ef_rm1 (m : MethodId) (q1 : Int64) : entryFrame m #[(.long q1)] 4 = mkF m 0 #[.val (.long q1), .second, .unset, .unset] [] := by first | (simp [entryFrame, mkF, argsToLocals, Value.category]; done) | rfl
def fn1 (q1 : Int64) : Int64 := (let v1 : Int64 := ((q1 * ((2 : Int64) - (q1 * q1))) * ((2 : Int64) - (q1 * (q1 * ((2 : Int64) - (q1 * q1)))))); (let v2 : Int64 := ((v1 * ((2 : Int64) - (q1 * v1))) * ((2 : Int64) - (q1 * (v1 * ((2 : Int64) - (q1 * v1)))))); (v2 * ((2 : Int64) - (q1 * v2)))))
def Q1 (Z : State) (q1 : Int64) (h0 : Heap) (n0 : Nat) (v : Option Value) (h : Heap) (L : List Loc) : Prop := v = some (.long (fn1 q1)) ∧ Fr n0 L ∧ h = h0
set_option maxRecDepth 65536 in
set_option maxHeartbeats 40000000 in
theorem rm1 (l : Launch) (Z : State) (a0 : Array Value) (hw : ∀ d ∈ tables_1, d.before a0 Z = true) (ws : List Jvm.Cond) (q1 : Int64) (h0 : Heap) (n0 : Nat) (Z0 : n0 ≤ h0.size) :
    MetFree l (⟨"reelwright/hash/Xxh3CoreAvalanche64PinLaw", "inverse", "(J)J"⟩ : MethodName) (head1 (Jvm.Cond.code (⟨"reelwright/hash/Xxh3CoreAvalanche64PinLaw", "inverse", "(J)J"⟩ : MethodName) method_2_code 4 (some .long) :: ws) ({ frames := 0, cells := 0, slots := 0, locals := 0 } : Room)) (fun a U => a = #[(.long q1)] ∧ Z.Warmed39 U.vm ∧ U.heap = h0) (fun _ _ _ _ _ => True) (fun _ U o U' => ∃ v L, o = .returned v ∧ Q1 Z q1 h0 n0 v U'.heap L ∧ FrameEnd U o U' L ({ frames := 0, cells := 0, slots := 0, locals := 0 } : Room).cells ({ frames := 0, cells := 0, slots := 0, locals := 0 } : Room).slots) := by
  refine MetFree.of_bodySF (plainFor_of_name pn_0) hisR ?_
  intro p e s m args below meth c s₁ Bd hml0 hP hK
  obtain ⟨rfl, hZ, hh⟩ := hP
  have hx := Bd.exec
  have hby := Bd.bytes
  have hml : c.maxLocals = 4 := hml0
  have hown : s.vm.findClass "reelwright/hash/Xxh3CoreAvalanche64PinLaw" = some m.cls := findClass_of_methodNamed Bd.named
  have hnm := (name_of_methodNamed Bd.named Bd.method).1
  have X0 : Stand p l e ({ frames := 0, cells := 0, slots := 0, locals := 0 } : Room) s m #[(.long q1)] below meth c s₁ [] 0 0 := Stand.of_body Bd
  have e0 : s₁.heap = h0 := by rw [← hh, Bd.state]; rfl
  have N0 := Fr.nil n0
  show Goes p e s below (fun v h L => Q1 Z q1 h0 n0 v h L) ({ frames := 0, cells := 0, slots := 0, locals := 0 } : Room).cells ({ frames := 0, cells := 0, slots := 0, locals := 0 } : Room).slots (s₁.setTop (entryFrame m #[(.long q1)] 4))
  refine Goes.st (U' := s₁.setTop (mkF m 0 #[.val (.long q1), .second, .unset, .unset] [])) (fun t k => castTop (ef_rm1 m q1) k) ?_
  refine Goes.st (U' := s₁.setTop (mkF m 1 #[.val (.long q1), .second, .unset, .unset] [(.long q1)])) (fun t k => XS.lloadN X0.here hx rfl (hb hby d1_0) rfl k) ?_
  refine Goes.st (U' := s₁.setTop (mkF m 2 #[.val (.long q1), .second, .val (.long q1), .second] [])) (fun t k => XS.lstoreN X0.here hx rfl (hb hby d1_1) rfl (l' := #[.val (.long q1), .second, .val (.long q1), .second]) rfl k) ?_
  refine Goes.st (U' := s₁.setTop (mkF m 3 #[.val (.long q1), .second, .val (.long q1), .second] [(.long q1)])) (fun t k => XS.lloadN X0.here hx rfl (hb hby d1_2) rfl k) ?_
  refine Goes.st (U' := s₁.setTop (mkF m 6 #[.val (.long q1), .second, .val (.long q1), .second] [(.long (2 : Int64)), (.long q1)])) (fun t k => X0.ldc2Long hx hown (mvT hZ (hw _ (List.mem_of_getElem? (i := 5) rfl))) (g := (mkF m 3 #[.val (.long q1), .second, .val (.long q1), .second] [(.long q1)])) rfl (hb hby d1_3) t k) ?_
  refine Goes.st (U' := s₁.setTop (mkF m 7 #[.val (.long q1), .second, .val (.long q1), .second] [(.long q1), (.long (2 : Int64)), (.long q1)])) (fun t k => XS.lloadN X0.here hx rfl (hb hby d1_6) rfl k) ?_
  refine Goes.st (U' := s₁.setTop (mkF m 8 #[.val (.long q1), .second, .val (.long q1), .second] [(.long q1), (.long q1), (.long (2 : Int64)), (.long q1)])) (fun t k => XS.lloadN X0.here hx rfl (hb hby d1_7) rfl k) ?_
  refine Goes.st (U' := s₁.setTop (mkF m 9 #[.val (.long q1), .second, .val (.long q1), .second] [(.long (q1 * q1)), (.long (2 : Int64)), (.long q1)])) (fun t k => XS.lmul X0.here hx rfl (hb hby d1_8) rfl k) ?_
  refine Goes.st (U' := s₁.setTop (mkF m 10 #[.val (.long q1), .second, .val (.long q1), .second] [(.long ((2 : Int64) - (q1 * q1))), (.long q1)])) (fun t k => XS.lsub X0.here hx rfl (hb hby d1_9) rfl k) ?_
  refine Goes.st (U' := s₁.setTop (mkF m 11 #[.val (.long q1), .second, .val (.long q1), .second] [(.long (q1 * ((2 : Int64) - (q1 * q1))))])) (fun t k => XS.lmul X0.here hx rfl (hb hby d1_10) rfl k) ?_
  refine Goes.st (U' := s₁.setTop (mkF m 12 #[.val (.long q1), .second, .val (.long (q1 * ((2 : Int64) - (q1 * q1)))), .second] [])) (fun t k => XS.lstoreN X0.here hx rfl (hb hby d1_11) rfl (l' := #[.val (.long q1), .second, .val (.long (q1 * ((2 : Int64) - (q1 * q1)))), .second]) rfl k) ?_
  refine Goes.st (U' := s₁.setTop (mkF m 13 #[.val (.long q1), .second, .val (.long (q1 * ((2 : Int64) - (q1 * q1)))), .second] [(.long (q1 * ((2 : Int64) - (q1 * q1))))])) (fun t k => XS.lloadN X0.here hx rfl (hb hby d1_12) rfl k) ?_
  refine Goes.st (U' := s₁.setTop (mkF m 16 #[.val (.long q1), .second, .val (.long (q1 * ((2 : Int64) - (q1 * q1)))), .second] [(.long (2 : Int64)), (.long (q1 * ((2 : Int64) - (q1 * q1))))])) (fun t k => X0.ldc2Long hx hown (mvT hZ (hw _ (List.mem_of_getElem? (i := 5) rfl))) (g := (mkF m 13 #[.val (.long q1), .second, .val (.long (q1 * ((2 : Int64) - (q1 * q1)))), .second] [(.long (q1 * ((2 : Int64) - (q1 * q1))))])) rfl (hb hby d1_13) t k) ?_
  refine Goes.st (U' := s₁.setTop (mkF m 17 #[.val (.long q1), .second, .val (.long (q1 * ((2 : Int64) - (q1 * q1)))), .second] [(.long q1), (.long (2 : Int64)), (.long (q1 * ((2 : Int64) - (q1 * q1))))])) (fun t k => XS.lloadN X0.here hx rfl (hb hby d1_16) rfl k) ?_
  refine Goes.st (U' := s₁.setTop (mkF m 18 #[.val (.long q1), .second, .val (.long (q1 * ((2 : Int64) - (q1 * q1)))), .second] [(.long (q1 * ((2 : Int64) - (q1 * q1)))), (.long q1), (.long (2 : Int64)), (.long (q1 * ((2 : Int64) - (q1 * q1))))])) (fun t k => XS.lloadN X0.here hx rfl (hb hby d1_17) rfl k) ?_
  refine Goes.st (U' := s₁.setTop (mkF m 19 #[.val (.long q1), .second, .val (.long (q1 * ((2 : Int64) - (q1 * q1)))), .second] [(.long (q1 * (q1 * ((2 : Int64) - (q1 * q1))))), (.long (2 : Int64)), (.long (q1 * ((2 : Int64) - (q1 * q1))))])) (fun t k => XS.lmul X0.here hx rfl (hb hby d1_18) rfl k) ?_
  refine Goes.st (U' := s₁.setTop (mkF m 20 #[.val (.long q1), .second, .val (.long (q1 * ((2 : Int64) - (q1 * q1)))), .second] [(.long ((2 : Int64) - (q1 * (q1 * ((2 : Int64) - (q1 * q1)))))), (.long (q1 * ((2 : Int64) - (q1 * q1))))])) (fun t k => XS.lsub X0.here hx rfl (hb hby d1_19) rfl k) ?_
  refine Goes.st (U' := s₁.setTop (mkF m 21 #[.val (.long q1), .second, .val (.long (q1 * ((2 : Int64) - (q1 * q1)))), .second] [(.long ((q1 * ((2 : Int64) - (q1 * q1))) * ((2 : Int64) - (q1 * (q1 * ((2 : Int64) - (q1 * q1)))))))])) (fun t k => XS.lmul X0.here hx rfl (hb hby d1_20) rfl k) ?_
  obtain ⟨v1, hv1⟩ : ∃ z : Int64, z = ((q1 * ((2 : Int64) - (q1 * q1))) * ((2 : Int64) - (q1 * (q1 * ((2 : Int64) - (q1 * q1)))))) := ⟨_, rfl⟩
  refine Goes.st (U' := s₁.setTop (mkF m 22 #[.val (.long q1), .second, .val (.long v1), .second] [])) (fun t k => (by subst hv1; exact XS.lstoreN X0.here hx rfl (hb hby d1_21) rfl (l' := #[.val (.long q1), .second, .val (.long ((q1 * ((2 : Int64) - (q1 * q1))) * ((2 : Int64) - (q1 * (q1 * ((2 : Int64) - (q1 * q1))))))), .second]) rfl k)) ?_
  refine Goes.st (U' := s₁.setTop (mkF m 23 #[.val (.long q1), .second, .val (.long v1), .second] [(.long v1)])) (fun t k => XS.lloadN X0.here hx rfl (hb hby d1_22) rfl k) ?_
  refine Goes.st (U' := s₁.setTop (mkF m 26 #[.val (.long q1), .second, .val (.long v1), .second] [(.long (2 : Int64)), (.long v1)])) (fun t k => X0.ldc2Long hx hown (mvT hZ (hw _ (List.mem_of_getElem? (i := 5) rfl))) (g := (mkF m 23 #[.val (.long q1), .second, .val (.long v1), .second] [(.long v1)])) rfl (hb hby d1_23) t k) ?_
  refine Goes.st (U' := s₁.setTop (mkF m 27 #[.val (.long q1), .second, .val (.long v1), .second] [(.long q1), (.long (2 : Int64)), (.long v1)])) (fun t k => XS.lloadN X0.here hx rfl (hb hby d1_26) rfl k) ?_
  refine Goes.st (U' := s₁.setTop (mkF m 28 #[.val (.long q1), .second, .val (.long v1), .second] [(.long v1), (.long q1), (.long (2 : Int64)), (.long v1)])) (fun t k => XS.lloadN X0.here hx rfl (hb hby d1_27) rfl k) ?_
  refine Goes.st (U' := s₁.setTop (mkF m 29 #[.val (.long q1), .second, .val (.long v1), .second] [(.long (q1 * v1)), (.long (2 : Int64)), (.long v1)])) (fun t k => XS.lmul X0.here hx rfl (hb hby d1_28) rfl k) ?_
  refine Goes.st (U' := s₁.setTop (mkF m 30 #[.val (.long q1), .second, .val (.long v1), .second] [(.long ((2 : Int64) - (q1 * v1))), (.long v1)])) (fun t k => XS.lsub X0.here hx rfl (hb hby d1_29) rfl k) ?_
  refine Goes.st (U' := s₁.setTop (mkF m 31 #[.val (.long q1), .second, .val (.long v1), .second] [(.long (v1 * ((2 : Int64) - (q1 * v1))))])) (fun t k => XS.lmul X0.here hx rfl (hb hby d1_30) rfl k) ?_
  refine Goes.st (U' := s₁.setTop (mkF m 32 #[.val (.long q1), .second, .val (.long (v1 * ((2 : Int64) - (q1 * v1)))), .second] [])) (fun t k => XS.lstoreN X0.here hx rfl (hb hby d1_31) rfl (l' := #[.val (.long q1), .second, .val (.long (v1 * ((2 : Int64) - (q1 * v1)))), .second]) rfl k) ?_
  refine Goes.st (U' := s₁.setTop (mkF m 33 #[.val (.long q1), .second, .val (.long (v1 * ((2 : Int64) - (q1 * v1)))), .second] [(.long (v1 * ((2 : Int64) - (q1 * v1))))])) (fun t k => XS.lloadN X0.here hx rfl (hb hby d1_32) rfl k) ?_
  refine Goes.st (U' := s₁.setTop (mkF m 36 #[.val (.long q1), .second, .val (.long (v1 * ((2 : Int64) - (q1 * v1)))), .second] [(.long (2 : Int64)), (.long (v1 * ((2 : Int64) - (q1 * v1))))])) (fun t k => X0.ldc2Long hx hown (mvT hZ (hw _ (List.mem_of_getElem? (i := 5) rfl))) (g := (mkF m 33 #[.val (.long q1), .second, .val (.long (v1 * ((2 : Int64) - (q1 * v1)))), .second] [(.long (v1 * ((2 : Int64) - (q1 * v1))))])) rfl (hb hby d1_33) t k) ?_
  refine Goes.st (U' := s₁.setTop (mkF m 37 #[.val (.long q1), .second, .val (.long (v1 * ((2 : Int64) - (q1 * v1)))), .second] [(.long q1), (.long (2 : Int64)), (.long (v1 * ((2 : Int64) - (q1 * v1))))])) (fun t k => XS.lloadN X0.here hx rfl (hb hby d1_36) rfl k) ?_
  refine Goes.st (U' := s₁.setTop (mkF m 38 #[.val (.long q1), .second, .val (.long (v1 * ((2 : Int64) - (q1 * v1)))), .second] [(.long (v1 * ((2 : Int64) - (q1 * v1)))), (.long q1), (.long (2 : Int64)), (.long (v1 * ((2 : Int64) - (q1 * v1))))])) (fun t k => XS.lloadN X0.here hx rfl (hb hby d1_37) rfl k) ?_
  refine Goes.st (U' := s₁.setTop (mkF m 39 #[.val (.long q1), .second, .val (.long (v1 * ((2 : Int64) - (q1 * v1)))), .second] [(.long (q1 * (v1 * ((2 : Int64) - (q1 * v1))))), (.long (2 : Int64)), (.long (v1 * ((2 : Int64) - (q1 * v1))))])) (fun t k => XS.lmul X0.here hx rfl (hb hby d1_38) rfl k) ?_
  refine Goes.st (U' := s₁.setTop (mkF m 40 #[.val (.long q1), .second, .val (.long (v1 * ((2 : Int64) - (q1 * v1)))), .second] [(.long ((2 : Int64) - (q1 * (v1 * ((2 : Int64) - (q1 * v1)))))), (.long (v1 * ((2 : Int64) - (q1 * v1))))])) (fun t k => XS.lsub X0.here hx rfl (hb hby d1_39) rfl k) ?_
  refine Goes.st (U' := s₁.setTop (mkF m 41 #[.val (.long q1), .second, .val (.long (v1 * ((2 : Int64) - (q1 * v1)))), .second] [(.long ((v1 * ((2 : Int64) - (q1 * v1))) * ((2 : Int64) - (q1 * (v1 * ((2 : Int64) - (q1 * v1)))))))])) (fun t k => XS.lmul X0.here hx rfl (hb hby d1_40) rfl k) ?_
  obtain ⟨v2, hv2⟩ : ∃ z : Int64, z = ((v1 * ((2 : Int64) - (q1 * v1))) * ((2 : Int64) - (q1 * (v1 * ((2 : Int64) - (q1 * v1)))))) := ⟨_, rfl⟩
  refine Goes.st (U' := s₁.setTop (mkF m 42 #[.val (.long q1), .second, .val (.long v2), .second] [])) (fun t k => (by subst hv2; exact XS.lstoreN X0.here hx rfl (hb hby d1_41) rfl (l' := #[.val (.long q1), .second, .val (.long ((v1 * ((2 : Int64) - (q1 * v1))) * ((2 : Int64) - (q1 * (v1 * ((2 : Int64) - (q1 * v1))))))), .second]) rfl k)) ?_
  refine Goes.st (U' := s₁.setTop (mkF m 43 #[.val (.long q1), .second, .val (.long v2), .second] [(.long v2)])) (fun t k => XS.lloadN X0.here hx rfl (hb hby d1_42) rfl k) ?_
  refine Goes.st (U' := s₁.setTop (mkF m 46 #[.val (.long q1), .second, .val (.long v2), .second] [(.long (2 : Int64)), (.long v2)])) (fun t k => X0.ldc2Long hx hown (mvT hZ (hw _ (List.mem_of_getElem? (i := 5) rfl))) (g := (mkF m 43 #[.val (.long q1), .second, .val (.long v2), .second] [(.long v2)])) rfl (hb hby d1_43) t k) ?_
  refine Goes.st (U' := s₁.setTop (mkF m 47 #[.val (.long q1), .second, .val (.long v2), .second] [(.long q1), (.long (2 : Int64)), (.long v2)])) (fun t k => XS.lloadN X0.here hx rfl (hb hby d1_46) rfl k) ?_
  refine Goes.st (U' := s₁.setTop (mkF m 48 #[.val (.long q1), .second, .val (.long v2), .second] [(.long v2), (.long q1), (.long (2 : Int64)), (.long v2)])) (fun t k => XS.lloadN X0.here hx rfl (hb hby d1_47) rfl k) ?_
  refine Goes.st (U' := s₁.setTop (mkF m 49 #[.val (.long q1), .second, .val (.long v2), .second] [(.long (q1 * v2)), (.long (2 : Int64)), (.long v2)])) (fun t k => XS.lmul X0.here hx rfl (hb hby d1_48) rfl k) ?_
  refine Goes.st (U' := s₁.setTop (mkF m 50 #[.val (.long q1), .second, .val (.long v2), .second] [(.long ((2 : Int64) - (q1 * v2))), (.long v2)])) (fun t k => XS.lsub X0.here hx rfl (hb hby d1_49) rfl k) ?_
  refine Goes.st (U' := s₁.setTop (mkF m 51 #[.val (.long q1), .second, .val (.long v2), .second] [(.long (v2 * ((2 : Int64) - (q1 * v2))))])) (fun t k => XS.lmul X0.here hx rfl (hb hby d1_50) rfl k) ?_
  refine Goes.st (U' := s₁.setTop (mkF m 52 #[.val (.long q1), .second, .val (.long (v2 * ((2 : Int64) - (q1 * v2)))), .second] [])) (fun t k => XS.lstoreN X0.here hx rfl (hb hby d1_51) rfl (l' := #[.val (.long q1), .second, .val (.long (v2 * ((2 : Int64) - (q1 * v2)))), .second]) rfl k) ?_
  refine Goes.st (U' := s₁.setTop (mkF m 53 #[.val (.long q1), .second, .val (.long (v2 * ((2 : Int64) - (q1 * v2)))), .second] [(.long (v2 * ((2 : Int64) - (q1 * v2))))])) (fun t k => XS.lloadN X0.here hx rfl (hb hby d1_52) rfl k) ?_
  refine Goes.retJ X0 hx (BodyLoose.notSynchronized Bd) Bd.returns (hb hby d1_53) (by decide) (by decide) ?_
  show Q1 Z q1 h0 n0 _ s₁.heap _
  rw [e0]
  exact ⟨(by subst hv2; subst hv1; rfl), N0, rfl⟩
theorem d2_0 : decode prog_17_method_19_code 0 = .ok (.lload_n 0, 1) := by decide +kernel
theorem d2_1 : decode prog_17_method_19_code 1 = .ok (.lload_n 0, 1) := by decide +kernel
theorem d2_2 : decode prog_17_method_19_code 2 = .ok (.bipush 33, 2) := by decide +kernel
theorem d2_4 : decode prog_17_method_19_code 4 = .ok (.lushr, 1) := by decide +kernel
theorem d2_5 : decode prog_17_method_19_code 5 = .ok (.lxor, 1) := by decide +kernel
theorem d2_6 : decode prog_17_method_19_code 6 = .ok (.lstore_n 2, 1) := by decide +kernel
theorem d2_7 : decode prog_17_method_19_code 7 = .ok (.lload_n 2, 1) := by decide +kernel
theorem d2_8 : decode prog_17_method_19_code 8 = .ok (.ldc2_w 15, 3) := by decide +kernel
theorem d2_11 : decode prog_17_method_19_code 11 = .ok (.lmul, 1) := by decide +kernel
theorem d2_12 : decode prog_17_method_19_code 12 = .ok (.lstore_n 2, 1) := by decide +kernel
theorem d2_13 : decode prog_17_method_19_code 13 = .ok (.lload_n 2, 1) := by decide +kernel
theorem d2_14 : decode prog_17_method_19_code 14 = .ok (.lload_n 2, 1) := by decide +kernel
theorem d2_15 : decode prog_17_method_19_code 15 = .ok (.bipush 29, 2) := by decide +kernel
theorem d2_17 : decode prog_17_method_19_code 17 = .ok (.lushr, 1) := by decide +kernel
theorem d2_18 : decode prog_17_method_19_code 18 = .ok (.lxor, 1) := by decide +kernel
theorem d2_19 : decode prog_17_method_19_code 19 = .ok (.lstore_n 2, 1) := by decide +kernel
theorem d2_20 : decode prog_17_method_19_code 20 = .ok (.lload_n 2, 1) := by decide +kernel
theorem d2_21 : decode prog_17_method_19_code 21 = .ok (.ldc2_w 17, 3) := by decide +kernel
theorem d2_24 : decode prog_17_method_19_code 24 = .ok (.lmul, 1) := by decide +kernel
theorem d2_25 : decode prog_17_method_19_code 25 = .ok (.lstore_n 2, 1) := by decide +kernel
theorem d2_26 : decode prog_17_method_19_code 26 = .ok (.lload_n 2, 1) := by decide +kernel
theorem d2_27 : decode prog_17_method_19_code 27 = .ok (.lload_n 2, 1) := by decide +kernel
theorem d2_28 : decode prog_17_method_19_code 28 = .ok (.bipush 32, 2) := by decide +kernel
theorem d2_30 : decode prog_17_method_19_code 30 = .ok (.lushr, 1) := by decide +kernel
theorem d2_31 : decode prog_17_method_19_code 31 = .ok (.lxor, 1) := by decide +kernel
theorem d2_32 : decode prog_17_method_19_code 32 = .ok (.lreturn, 1) := by decide +kernel
theorem pn_1 : plainName "reelwright/hash/Xxh3Core" = true := by first | (simp [plainName, overriddenIn]; done) | decide +kernel
theorem ef_rm2 (m : MethodId) (q1 : Int64) : entryFrame m #[(.long q1)] 4 = mkF m 0 #[.val (.long q1), .second, .unset, .unset] [] := by first | (simp [entryFrame, mkF, argsToLocals, Value.category]; done) | rfl
def fn2 (q1 : Int64) : Int64 := (let v1 : Int64 := (q1 ^^^ ((q1.toUInt64 >>> ((33 : Int32) &&& 0x3f).toInt64.toUInt64).toInt64)); (let v2 : Int64 := ((v1 * (-4417276706812531889 : Int64)) ^^^ (((v1 * (-4417276706812531889 : Int64)).toUInt64 >>> ((29 : Int32) &&& 0x3f).toInt64.toUInt64).toInt64)); ((v2 * (1609587929392839161 : Int64)) ^^^ (((v2 * (1609587929392839161 : Int64)).toUInt64 >>> ((32 : Int32) &&& 0x3f).toInt64.toUInt64).toInt64))))
def Q2 (Z : State) (q1 : Int64) (h0 : Heap) (n0 : Nat) (v : Option Value) (h : Heap) (L : List Loc) : Prop := v = some (.long (fn2 q1)) ∧ Fr n0 L ∧ h = h0
set_option maxRecDepth 65536 in
set_option maxHeartbeats 40000000 in
theorem rm2 (l : Launch) (Z : State) (a0 : Array Value) (hw : ∀ d ∈ tables_1, d.before a0 Z = true) (ws : List Jvm.Cond) (q1 : Int64) (h0 : Heap) (n0 : Nat) (Z0 : n0 ≤ h0.size) :
    MetFree l (⟨"reelwright/hash/Xxh3Core", "avalanche64", "(J)J"⟩ : MethodName) (head1 (Jvm.Cond.code (⟨"reelwright/hash/Xxh3Core", "avalanche64", "(J)J"⟩ : MethodName) prog_17_method_19_code 4 (some .long) :: ws) ({ frames := 0, cells := 0, slots := 0, locals := 0 } : Room)) (fun a U => a = #[(.long q1)] ∧ Z.Warmed39 U.vm ∧ U.heap = h0) (fun _ _ _ _ _ => True) (fun _ U o U' => ∃ v L, o = .returned v ∧ Q2 Z q1 h0 n0 v U'.heap L ∧ FrameEnd U o U' L ({ frames := 0, cells := 0, slots := 0, locals := 0 } : Room).cells ({ frames := 0, cells := 0, slots := 0, locals := 0 } : Room).slots) := by
  refine MetFree.of_bodySF (plainFor_of_name pn_1) hisR ?_
  intro p e s m args below meth c s₁ Bd hml0 hP hK
  obtain ⟨rfl, hZ, hh⟩ := hP
  have hx := Bd.exec
  have hby := Bd.bytes
  have hml : c.maxLocals = 4 := hml0
  have hown : s.vm.findClass "reelwright/hash/Xxh3Core" = some m.cls := findClass_of_methodNamed Bd.named
  have hnm := (name_of_methodNamed Bd.named Bd.method).1
  have X0 : Stand p l e ({ frames := 0, cells := 0, slots := 0, locals := 0 } : Room) s m #[(.long q1)] below meth c s₁ [] 0 0 := Stand.of_body Bd
  have e0 : s₁.heap = h0 := by rw [← hh, Bd.state]; rfl
  have N0 := Fr.nil n0
  show Goes p e s below (fun v h L => Q2 Z q1 h0 n0 v h L) ({ frames := 0, cells := 0, slots := 0, locals := 0 } : Room).cells ({ frames := 0, cells := 0, slots := 0, locals := 0 } : Room).slots (s₁.setTop (entryFrame m #[(.long q1)] 4))
  refine Goes.st (U' := s₁.setTop (mkF m 0 #[.val (.long q1), .second, .unset, .unset] [])) (fun t k => castTop (ef_rm2 m q1) k) ?_
  refine Goes.st (U' := s₁.setTop (mkF m 1 #[.val (.long q1), .second, .unset, .unset] [(.long q1)])) (fun t k => XS.lloadN X0.here hx rfl (hb hby d2_0) rfl k) ?_
  refine Goes.st (U' := s₁.setTop (mkF m 2 #[.val (.long q1), .second, .unset, .unset] [(.long q1), (.long q1)])) (fun t k => XS.lloadN X0.here hx rfl (hb hby d2_1) rfl k) ?_
  refine Goes.st (U' := s₁.setTop (mkF m 4 #[.val (.long q1), .second, .unset, .unset] [(.int (33 : Int32)), (.long q1), (.long q1)])) (fun t k => XS.bipush X0.here hx rfl (hb hby d2_2) k) ?_
  refine Goes.st (U' := s₁.setTop (mkF m 5 #[.val (.long q1), .second, .unset, .unset] [(.long ((q1.toUInt64 >>> ((33 : Int32) &&& 0x3f).toInt64.toUInt64).toInt64)), (.long q1)])) (fun t k => XS.lushr X0.here hx rfl (hb hby d2_4) rfl k) ?_
  refine Goes.st (U' := s₁.setTop (mkF m 6 #[.val (.long q1), .second, .unset, .unset] [(.long (q1 ^^^ ((q1.toUInt64 >>> ((33 : Int32) &&& 0x3f).toInt64.toUInt64).toInt64)))])) (fun t k => XS.lxor X0.here hx rfl (hb hby d2_5) rfl k) ?_
  obtain ⟨v1, hv1⟩ : ∃ z : Int64, z = (q1 ^^^ ((q1.toUInt64 >>> ((33 : Int32) &&& 0x3f).toInt64.toUInt64).toInt64)) := ⟨_, rfl⟩
  refine Goes.st (U' := s₁.setTop (mkF m 7 #[.val (.long q1), .second, .val (.long v1), .second] [])) (fun t k => (by subst hv1; exact XS.lstoreN X0.here hx rfl (hb hby d2_6) rfl (l' := #[.val (.long q1), .second, .val (.long (q1 ^^^ ((q1.toUInt64 >>> ((33 : Int32) &&& 0x3f).toInt64.toUInt64).toInt64))), .second]) rfl k)) ?_
  refine Goes.st (U' := s₁.setTop (mkF m 8 #[.val (.long q1), .second, .val (.long v1), .second] [(.long v1)])) (fun t k => XS.lloadN X0.here hx rfl (hb hby d2_7) rfl k) ?_
  refine Goes.st (U' := s₁.setTop (mkF m 11 #[.val (.long q1), .second, .val (.long v1), .second] [(.long (-4417276706812531889 : Int64)), (.long v1)])) (fun t k => X0.ldc2Long hx hown (mvT hZ (hw _ (List.mem_of_getElem? (i := 11) rfl))) (g := (mkF m 8 #[.val (.long q1), .second, .val (.long v1), .second] [(.long v1)])) rfl (hb hby d2_8) t k) ?_
  refine Goes.st (U' := s₁.setTop (mkF m 12 #[.val (.long q1), .second, .val (.long v1), .second] [(.long (v1 * (-4417276706812531889 : Int64)))])) (fun t k => XS.lmul X0.here hx rfl (hb hby d2_11) rfl k) ?_
  refine Goes.st (U' := s₁.setTop (mkF m 13 #[.val (.long q1), .second, .val (.long (v1 * (-4417276706812531889 : Int64))), .second] [])) (fun t k => XS.lstoreN X0.here hx rfl (hb hby d2_12) rfl (l' := #[.val (.long q1), .second, .val (.long (v1 * (-4417276706812531889 : Int64))), .second]) rfl k) ?_
  refine Goes.st (U' := s₁.setTop (mkF m 14 #[.val (.long q1), .second, .val (.long (v1 * (-4417276706812531889 : Int64))), .second] [(.long (v1 * (-4417276706812531889 : Int64)))])) (fun t k => XS.lloadN X0.here hx rfl (hb hby d2_13) rfl k) ?_
  refine Goes.st (U' := s₁.setTop (mkF m 15 #[.val (.long q1), .second, .val (.long (v1 * (-4417276706812531889 : Int64))), .second] [(.long (v1 * (-4417276706812531889 : Int64))), (.long (v1 * (-4417276706812531889 : Int64)))])) (fun t k => XS.lloadN X0.here hx rfl (hb hby d2_14) rfl k) ?_
  refine Goes.st (U' := s₁.setTop (mkF m 17 #[.val (.long q1), .second, .val (.long (v1 * (-4417276706812531889 : Int64))), .second] [(.int (29 : Int32)), (.long (v1 * (-4417276706812531889 : Int64))), (.long (v1 * (-4417276706812531889 : Int64)))])) (fun t k => XS.bipush X0.here hx rfl (hb hby d2_15) k) ?_
  refine Goes.st (U' := s₁.setTop (mkF m 18 #[.val (.long q1), .second, .val (.long (v1 * (-4417276706812531889 : Int64))), .second] [(.long (((v1 * (-4417276706812531889 : Int64)).toUInt64 >>> ((29 : Int32) &&& 0x3f).toInt64.toUInt64).toInt64)), (.long (v1 * (-4417276706812531889 : Int64)))])) (fun t k => XS.lushr X0.here hx rfl (hb hby d2_17) rfl k) ?_
  refine Goes.st (U' := s₁.setTop (mkF m 19 #[.val (.long q1), .second, .val (.long (v1 * (-4417276706812531889 : Int64))), .second] [(.long ((v1 * (-4417276706812531889 : Int64)) ^^^ (((v1 * (-4417276706812531889 : Int64)).toUInt64 >>> ((29 : Int32) &&& 0x3f).toInt64.toUInt64).toInt64)))])) (fun t k => XS.lxor X0.here hx rfl (hb hby d2_18) rfl k) ?_
  obtain ⟨v2, hv2⟩ : ∃ z : Int64, z = ((v1 * (-4417276706812531889 : Int64)) ^^^ (((v1 * (-4417276706812531889 : Int64)).toUInt64 >>> ((29 : Int32) &&& 0x3f).toInt64.toUInt64).toInt64)) := ⟨_, rfl⟩
  refine Goes.st (U' := s₁.setTop (mkF m 20 #[.val (.long q1), .second, .val (.long v2), .second] [])) (fun t k => (by subst hv2; exact XS.lstoreN X0.here hx rfl (hb hby d2_19) rfl (l' := #[.val (.long q1), .second, .val (.long ((v1 * (-4417276706812531889 : Int64)) ^^^ (((v1 * (-4417276706812531889 : Int64)).toUInt64 >>> ((29 : Int32) &&& 0x3f).toInt64.toUInt64).toInt64))), .second]) rfl k)) ?_
  refine Goes.st (U' := s₁.setTop (mkF m 21 #[.val (.long q1), .second, .val (.long v2), .second] [(.long v2)])) (fun t k => XS.lloadN X0.here hx rfl (hb hby d2_20) rfl k) ?_
  refine Goes.st (U' := s₁.setTop (mkF m 24 #[.val (.long q1), .second, .val (.long v2), .second] [(.long (1609587929392839161 : Int64)), (.long v2)])) (fun t k => X0.ldc2Long hx hown (mvT hZ (hw _ (List.mem_of_getElem? (i := 12) rfl))) (g := (mkF m 21 #[.val (.long q1), .second, .val (.long v2), .second] [(.long v2)])) rfl (hb hby d2_21) t k) ?_
  refine Goes.st (U' := s₁.setTop (mkF m 25 #[.val (.long q1), .second, .val (.long v2), .second] [(.long (v2 * (1609587929392839161 : Int64)))])) (fun t k => XS.lmul X0.here hx rfl (hb hby d2_24) rfl k) ?_
  refine Goes.st (U' := s₁.setTop (mkF m 26 #[.val (.long q1), .second, .val (.long (v2 * (1609587929392839161 : Int64))), .second] [])) (fun t k => XS.lstoreN X0.here hx rfl (hb hby d2_25) rfl (l' := #[.val (.long q1), .second, .val (.long (v2 * (1609587929392839161 : Int64))), .second]) rfl k) ?_
  refine Goes.st (U' := s₁.setTop (mkF m 27 #[.val (.long q1), .second, .val (.long (v2 * (1609587929392839161 : Int64))), .second] [(.long (v2 * (1609587929392839161 : Int64)))])) (fun t k => XS.lloadN X0.here hx rfl (hb hby d2_26) rfl k) ?_
  refine Goes.st (U' := s₁.setTop (mkF m 28 #[.val (.long q1), .second, .val (.long (v2 * (1609587929392839161 : Int64))), .second] [(.long (v2 * (1609587929392839161 : Int64))), (.long (v2 * (1609587929392839161 : Int64)))])) (fun t k => XS.lloadN X0.here hx rfl (hb hby d2_27) rfl k) ?_
  refine Goes.st (U' := s₁.setTop (mkF m 30 #[.val (.long q1), .second, .val (.long (v2 * (1609587929392839161 : Int64))), .second] [(.int (32 : Int32)), (.long (v2 * (1609587929392839161 : Int64))), (.long (v2 * (1609587929392839161 : Int64)))])) (fun t k => XS.bipush X0.here hx rfl (hb hby d2_28) k) ?_
  refine Goes.st (U' := s₁.setTop (mkF m 31 #[.val (.long q1), .second, .val (.long (v2 * (1609587929392839161 : Int64))), .second] [(.long (((v2 * (1609587929392839161 : Int64)).toUInt64 >>> ((32 : Int32) &&& 0x3f).toInt64.toUInt64).toInt64)), (.long (v2 * (1609587929392839161 : Int64)))])) (fun t k => XS.lushr X0.here hx rfl (hb hby d2_30) rfl k) ?_
  refine Goes.st (U' := s₁.setTop (mkF m 32 #[.val (.long q1), .second, .val (.long (v2 * (1609587929392839161 : Int64))), .second] [(.long ((v2 * (1609587929392839161 : Int64)) ^^^ (((v2 * (1609587929392839161 : Int64)).toUInt64 >>> ((32 : Int32) &&& 0x3f).toInt64.toUInt64).toInt64)))])) (fun t k => XS.lxor X0.here hx rfl (hb hby d2_31) rfl k) ?_
  refine Goes.retJ X0 hx (BodyLoose.notSynchronized Bd) Bd.returns (hb hby d2_32) (by decide) (by decide) ?_
  show Q2 Z q1 h0 n0 _ s₁.heap _
  rw [e0]
  exact ⟨(by subst hv2; subst hv1; rfl), N0, rfl⟩
theorem d3_0 : decode method_3_code 0 = .ok (.lload_n 0, 1) := by decide +kernel
theorem d3_1 : decode method_3_code 1 = .ok (.lload_n 0, 1) := by decide +kernel
theorem d3_2 : decode method_3_code 2 = .ok (.bipush 32, 2) := by decide +kernel
theorem d3_4 : decode method_3_code 4 = .ok (.lushr, 1) := by decide +kernel
theorem d3_5 : decode method_3_code 5 = .ok (.lxor, 1) := by decide +kernel
theorem d3_6 : decode method_3_code 6 = .ok (.lstore_n 2, 1) := by decide +kernel
theorem d3_7 : decode method_3_code 7 = .ok (.lload_n 2, 1) := by decide +kernel
theorem d3_8 : decode method_3_code 8 = .ok (.ldc2_w 11, 3) := by decide +kernel
theorem d3_11 : decode method_3_code 11 = .ok (.invokestatic 13, 3) := by decide +kernel
theorem d3_14 : decode method_3_code 14 = .ok (.lmul, 1) := by decide +kernel
theorem d3_15 : decode method_3_code 15 = .ok (.lstore 4, 2) := by decide +kernel
theorem d3_17 : decode method_3_code 17 = .ok (.lload 4, 2) := by decide +kernel
theorem d3_19 : decode method_3_code 19 = .ok (.lload 4, 2) := by decide +kernel
theorem d3_21 : decode method_3_code 21 = .ok (.bipush 29, 2) := by decide +kernel
theorem d3_23 : decode method_3_code 23 = .ok (.lushr, 1) := by decide +kernel
theorem d3_24 : decode method_3_code 24 = .ok (.lxor, 1) := by decide +kernel
theorem d3_25 : decode method_3_code 25 = .ok (.lload 4, 2) := by decide +kernel
theorem d3_27 : decode method_3_code 27 = .ok (.bipush 58, 2) := by decide +kernel
theorem d3_29 : decode method_3_code 29 = .ok (.lushr, 1) := by decide +kernel
theorem d3_30 : decode method_3_code 30 = .ok (.lxor, 1) := by decide +kernel
theorem d3_31 : decode method_3_code 31 = .ok (.lstore 6, 2) := by decide +kernel
theorem d3_33 : decode method_3_code 33 = .ok (.lload 6, 2) := by decide +kernel
theorem d3_35 : decode method_3_code 35 = .ok (.ldc2_w 17, 3) := by decide +kernel
theorem d3_38 : decode method_3_code 38 = .ok (.invokestatic 13, 3) := by decide +kernel
theorem d3_41 : decode method_3_code 41 = .ok (.lmul, 1) := by decide +kernel
theorem d3_42 : decode method_3_code 42 = .ok (.lstore 8, 2) := by decide +kernel
theorem d3_44 : decode method_3_code 44 = .ok (.lload 8, 2) := by decide +kernel
theorem d3_46 : decode method_3_code 46 = .ok (.lload 8, 2) := by decide +kernel
theorem d3_48 : decode method_3_code 48 = .ok (.bipush 33, 2) := by decide +kernel
theorem d3_50 : decode method_3_code 50 = .ok (.lushr, 1) := by decide +kernel
theorem d3_51 : decode method_3_code 51 = .ok (.lxor, 1) := by decide +kernel
theorem d3_52 : decode method_3_code 52 = .ok (.lreturn, 1) := by decide +kernel
theorem pd_0 : parseMethodDescriptor "(J)J" = some ⟨[.long], some .long⟩ := by decide +kernel
theorem ef_rm3 (m : MethodId) (q1 : Int64) : entryFrame m #[(.long q1)] 10 = mkF m 0 #[.val (.long q1), .second, .unset, .unset, .unset, .unset, .unset, .unset, .unset, .unset] [] := by first | (simp [entryFrame, mkF, argsToLocals, Value.category]; done) | rfl
def fn3 (q1 : Int64) : Int64 := (let v1 : Int64 := (q1 ^^^ ((q1.toUInt64 >>> ((32 : Int32) &&& 0x3f).toInt64.toUInt64).toInt64)); (let v3 : Int64 := (v1 * (fn1 (1609587929392839161 : Int64))); (let v4 : Int64 := ((v3 ^^^ ((v3.toUInt64 >>> ((29 : Int32) &&& 0x3f).toInt64.toUInt64).toInt64)) ^^^ ((v3.toUInt64 >>> ((58 : Int32) &&& 0x3f).toInt64.toUInt64).toInt64)); (let v6 : Int64 := (v4 * (fn1 (-4417276706812531889 : Int64))); (v6 ^^^ ((v6.toUInt64 >>> ((33 : Int32) &&& 0x3f).toInt64.toUInt64).toInt64))))))
def Q3 (Z : State) (q1 : Int64) (h0 : Heap) (n0 : Nat) (v : Option Value) (h : Heap) (L : List Loc) : Prop := v = some (.long (fn3 q1)) ∧ Fr n0 L ∧ h = h0
set_option maxRecDepth 65536 in
set_option maxHeartbeats 40000000 in
theorem rm3 (l : Launch) (Z : State) (a0 : Array Value) (hw : ∀ d ∈ tables_1, d.before a0 Z = true) (ws : List Jvm.Cond) (q1 : Int64) (h0 : Heap) (n0 : Nat) (Z0 : n0 ≤ h0.size) :
    MetFree l (⟨"reelwright/hash/Xxh3CoreAvalanche64PinLaw", "unmix", "(J)J"⟩ : MethodName) (head1 (Jvm.Cond.code (⟨"reelwright/hash/Xxh3CoreAvalanche64PinLaw", "unmix", "(J)J"⟩ : MethodName) method_3_code 10 (some .long) :: ws) ({ frames := 1, cells := 0, slots := 0, locals := 17 } : Room)) (fun a U => a = #[(.long q1)] ∧ Z.Warmed39 U.vm ∧ U.heap = h0) (fun _ _ _ _ _ => True) (fun _ U o U' => ∃ v L, o = .returned v ∧ Q3 Z q1 h0 n0 v U'.heap L ∧ FrameEnd U o U' L ({ frames := 1, cells := 0, slots := 0, locals := 17 } : Room).cells ({ frames := 1, cells := 0, slots := 0, locals := 17 } : Room).slots) := by
  refine MetFree.of_bodySF (plainFor_of_name pn_0) hisR ?_
  intro p e s m args below meth c s₁ Bd hml0 hP hK
  obtain ⟨rfl, hZ, hh⟩ := hP
  have hx := Bd.exec
  have hby := Bd.bytes
  have hml : c.maxLocals = 10 := hml0
  have hown : s.vm.findClass "reelwright/hash/Xxh3CoreAvalanche64PinLaw" = some m.cls := findClass_of_methodNamed Bd.named
  have hnm := (name_of_methodNamed Bd.named Bd.method).1
  have X0 : Stand p l e ({ frames := 1, cells := 0, slots := 0, locals := 17 } : Room) s m #[(.long q1)] below meth c s₁ [] 0 0 := Stand.of_body Bd
  have e0 : s₁.heap = h0 := by rw [← hh, Bd.state]; rfl
  have N0 := Fr.nil n0
  show Goes p e s below (fun v h L => Q3 Z q1 h0 n0 v h L) ({ frames := 1, cells := 0, slots := 0, locals := 17 } : Room).cells ({ frames := 1, cells := 0, slots := 0, locals := 17 } : Room).slots (s₁.setTop (entryFrame m #[(.long q1)] 10))
  refine Goes.st (U' := s₁.setTop (mkF m 0 #[.val (.long q1), .second, .unset, .unset, .unset, .unset, .unset, .unset, .unset, .unset] [])) (fun t k => castTop (ef_rm3 m q1) k) ?_
  refine Goes.st (U' := s₁.setTop (mkF m 1 #[.val (.long q1), .second, .unset, .unset, .unset, .unset, .unset, .unset, .unset, .unset] [(.long q1)])) (fun t k => XS.lloadN X0.here hx rfl (hb hby d3_0) rfl k) ?_
  refine Goes.st (U' := s₁.setTop (mkF m 2 #[.val (.long q1), .second, .unset, .unset, .unset, .unset, .unset, .unset, .unset, .unset] [(.long q1), (.long q1)])) (fun t k => XS.lloadN X0.here hx rfl (hb hby d3_1) rfl k) ?_
  refine Goes.st (U' := s₁.setTop (mkF m 4 #[.val (.long q1), .second, .unset, .unset, .unset, .unset, .unset, .unset, .unset, .unset] [(.int (32 : Int32)), (.long q1), (.long q1)])) (fun t k => XS.bipush X0.here hx rfl (hb hby d3_2) k) ?_
  refine Goes.st (U' := s₁.setTop (mkF m 5 #[.val (.long q1), .second, .unset, .unset, .unset, .unset, .unset, .unset, .unset, .unset] [(.long ((q1.toUInt64 >>> ((32 : Int32) &&& 0x3f).toInt64.toUInt64).toInt64)), (.long q1)])) (fun t k => XS.lushr X0.here hx rfl (hb hby d3_4) rfl k) ?_
  refine Goes.st (U' := s₁.setTop (mkF m 6 #[.val (.long q1), .second, .unset, .unset, .unset, .unset, .unset, .unset, .unset, .unset] [(.long (q1 ^^^ ((q1.toUInt64 >>> ((32 : Int32) &&& 0x3f).toInt64.toUInt64).toInt64)))])) (fun t k => XS.lxor X0.here hx rfl (hb hby d3_5) rfl k) ?_
  obtain ⟨v1, hv1⟩ : ∃ z : Int64, z = (q1 ^^^ ((q1.toUInt64 >>> ((32 : Int32) &&& 0x3f).toInt64.toUInt64).toInt64)) := ⟨_, rfl⟩
  refine Goes.st (U' := s₁.setTop (mkF m 7 #[.val (.long q1), .second, .val (.long v1), .second, .unset, .unset, .unset, .unset, .unset, .unset] [])) (fun t k => (by subst hv1; exact XS.lstoreN X0.here hx rfl (hb hby d3_6) rfl (l' := #[.val (.long q1), .second, .val (.long (q1 ^^^ ((q1.toUInt64 >>> ((32 : Int32) &&& 0x3f).toInt64.toUInt64).toInt64))), .second, .unset, .unset, .unset, .unset, .unset, .unset]) rfl k)) ?_
  refine Goes.st (U' := s₁.setTop (mkF m 8 #[.val (.long q1), .second, .val (.long v1), .second, .unset, .unset, .unset, .unset, .unset, .unset] [(.long v1)])) (fun t k => XS.lloadN X0.here hx rfl (hb hby d3_7) rfl k) ?_
  refine Goes.st (U' := s₁.setTop (mkF m 11 #[.val (.long q1), .second, .val (.long v1), .second, .unset, .unset, .unset, .unset, .unset, .unset] [(.long (1609587929392839161 : Int64)), (.long v1)])) (fun t k => X0.ldc2Long hx hown (mvT hZ (hw _ (List.mem_of_getElem? (i := 6) rfl))) (g := (mkF m 8 #[.val (.long q1), .second, .val (.long v1), .second, .unset, .unset, .unset, .unset, .unset, .unset] [(.long v1)])) rfl (hb hby d3_8) t k) ?_
  obtain ⟨_, _, ⟨T2, L2, k2, n2⟩, -, X2, ⟨Lc2, hQ2, l2, y2, z2⟩, st2⟩ := Jvm.LawKit.callS X0 hx (y := (⟨"reelwright/hash/Xxh3CoreAvalanche64PinLaw", "inverse", "(J)J"⟩ : MethodName)) hown (mvT hZ (hw _ (List.mem_of_getElem? (i := 1) rfl))) (mvT hZ (hw _ (List.mem_of_getElem? (i := 2) rfl))) (mvT hZ (hw _ (List.mem_of_getElem? (i := 3) rfl))) (mvT hZ (hw _ (List.mem_of_getElem? (i := 4) rfl))) (by decide) (backOf (W := 2) (rm1 l Z a0 hw [] (1609587929392839161 : Int64) h0 n0 Z0) hZ (hw _ (List.mem_of_getElem? (i := 4) rfl)) (hw _ (List.mem_of_getElem? (i := 3) rfl)) (by decide) (by decide)) (g := (mkF m 11 #[.val (.long q1), .second, .val (.long v1), .second, .unset, .unset, .unset, .unset, .unset, .unset] [(.long (1609587929392839161 : Int64)), (.long v1)])) rfl (by rw [hml]; rfl) (argsL := [(.long (1609587929392839161 : Int64))]) (rest := [(.long v1)]) (lenOf pd_0 rfl) rfl (by show 2 * 0 + _ ≤ _; exact Nat.le_of_eq rfl) (hb hby d3_11) (fun _ _ => ⟨rfl, e0, (by decide : 0 + 0 ≤ _), (by decide : 0 + 0 ≤ _)⟩)
  dsimp only [Pt.U, Pt.locs, Pt.cells, Pt.slots] at X2 l2 y2 z2 st2 hQ2
  subst l2 y2 z2
  obtain ⟨rfl, N2q, e2⟩ := hQ2
  have N2 := Fr.app N0 N2q
  refine Goes.st (U' := T2.setTop (mkF m 14 #[.val (.long q1), .second, .val (.long v1), .second, .unset, .unset, .unset, .unset, .unset, .unset] [(.long (fn1 (1609587929392839161 : Int64))), (.long v1)])) st2 ?_
  refine Goes.st (U' := T2.setTop (mkF m 15 #[.val (.long q1), .second, .val (.long v1), .second, .unset, .unset, .unset, .unset, .unset, .unset] [(.long (v1 * (fn1 (1609587929392839161 : Int64))))])) (fun t k => XS.lmul X2.here hx rfl (hb hby d3_14) rfl k) ?_
  obtain ⟨v3, hv3⟩ : ∃ z : Int64, z = (v1 * (fn1 (1609587929392839161 : Int64))) := ⟨_, rfl⟩
  refine Goes.st (U' := T2.setTop (mkF m 17 #[.val (.long q1), .second, .val (.long v1), .second, .val (.long v3), .second, .unset, .unset, .unset, .unset] [])) (fun t k => (by subst hv3; exact XS.lstore X2.here hx rfl (hb hby d3_15) rfl (l' := #[.val (.long q1), .second, .val (.long v1), .second, .val (.long (v1 * (fn1 (1609587929392839161 : Int64)))), .second, .unset, .unset, .unset, .unset]) rfl k)) ?_
  refine Goes.st (U' := T2.setTop (mkF m 19 #[.val (.long q1), .second, .val (.long v1), .second, .val (.long v3), .second, .unset, .unset, .unset, .unset] [(.long v3)])) (fun t k => XS.lload X2.here hx rfl (hb hby d3_17) rfl k) ?_
  refine Goes.st (U' := T2.setTop (mkF m 21 #[.val (.long q1), .second, .val (.long v1), .second, .val (.long v3), .second, .unset, .unset, .unset, .unset] [(.long v3), (.long v3)])) (fun t k => XS.lload X2.here hx rfl (hb hby d3_19) rfl k) ?_
  refine Goes.st (U' := T2.setTop (mkF m 23 #[.val (.long q1), .second, .val (.long v1), .second, .val (.long v3), .second, .unset, .unset, .unset, .unset] [(.int (29 : Int32)), (.long v3), (.long v3)])) (fun t k => XS.bipush X2.here hx rfl (hb hby d3_21) k) ?_
  refine Goes.st (U' := T2.setTop (mkF m 24 #[.val (.long q1), .second, .val (.long v1), .second, .val (.long v3), .second, .unset, .unset, .unset, .unset] [(.long ((v3.toUInt64 >>> ((29 : Int32) &&& 0x3f).toInt64.toUInt64).toInt64)), (.long v3)])) (fun t k => XS.lushr X2.here hx rfl (hb hby d3_23) rfl k) ?_
  refine Goes.st (U' := T2.setTop (mkF m 25 #[.val (.long q1), .second, .val (.long v1), .second, .val (.long v3), .second, .unset, .unset, .unset, .unset] [(.long (v3 ^^^ ((v3.toUInt64 >>> ((29 : Int32) &&& 0x3f).toInt64.toUInt64).toInt64)))])) (fun t k => XS.lxor X2.here hx rfl (hb hby d3_24) rfl k) ?_
  refine Goes.st (U' := T2.setTop (mkF m 27 #[.val (.long q1), .second, .val (.long v1), .second, .val (.long v3), .second, .unset, .unset, .unset, .unset] [(.long v3), (.long (v3 ^^^ ((v3.toUInt64 >>> ((29 : Int32) &&& 0x3f).toInt64.toUInt64).toInt64)))])) (fun t k => XS.lload X2.here hx rfl (hb hby d3_25) rfl k) ?_
  refine Goes.st (U' := T2.setTop (mkF m 29 #[.val (.long q1), .second, .val (.long v1), .second, .val (.long v3), .second, .unset, .unset, .unset, .unset] [(.int (58 : Int32)), (.long v3), (.long (v3 ^^^ ((v3.toUInt64 >>> ((29 : Int32) &&& 0x3f).toInt64.toUInt64).toInt64)))])) (fun t k => XS.bipush X2.here hx rfl (hb hby d3_27) k) ?_
  refine Goes.st (U' := T2.setTop (mkF m 30 #[.val (.long q1), .second, .val (.long v1), .second, .val (.long v3), .second, .unset, .unset, .unset, .unset] [(.long ((v3.toUInt64 >>> ((58 : Int32) &&& 0x3f).toInt64.toUInt64).toInt64)), (.long (v3 ^^^ ((v3.toUInt64 >>> ((29 : Int32) &&& 0x3f).toInt64.toUInt64).toInt64)))])) (fun t k => XS.lushr X2.here hx rfl (hb hby d3_29) rfl k) ?_
  refine Goes.st (U' := T2.setTop (mkF m 31 #[.val (.long q1), .second, .val (.long v1), .second, .val (.long v3), .second, .unset, .unset, .unset, .unset] [(.long ((v3 ^^^ ((v3.toUInt64 >>> ((29 : Int32) &&& 0x3f).toInt64.toUInt64).toInt64)) ^^^ ((v3.toUInt64 >>> ((58 : Int32) &&& 0x3f).toInt64.toUInt64).toInt64)))])) (fun t k => XS.lxor X2.here hx rfl (hb hby d3_30) rfl k) ?_
  obtain ⟨v4, hv4⟩ : ∃ z : Int64, z = ((v3 ^^^ ((v3.toUInt64 >>> ((29 : Int32) &&& 0x3f).toInt64.toUInt64).toInt64)) ^^^ ((v3.toUInt64 >>> ((58 : Int32) &&& 0x3f).toInt64.toUInt64).toInt64)) := ⟨_, rfl⟩
  refine Goes.st (U' := T2.setTop (mkF m 33 #[.val (.long q1), .second, .val (.long v1), .second, .val (.long v3), .second, .val (.long v4), .second, .unset, .unset] [])) (fun t k => (by subst hv4; exact XS.lstore X2.here hx rfl (hb hby d3_31) rfl (l' := #[.val (.long q1), .second, .val (.long v1), .second, .val (.long v3), .second, .val (.long ((v3 ^^^ ((v3.toUInt64 >>> ((29 : Int32) &&& 0x3f).toInt64.toUInt64).toInt64)) ^^^ ((v3.toUInt64 >>> ((58 : Int32) &&& 0x3f).toInt64.toUInt64).toInt64))), .second, .unset, .unset]) rfl k)) ?_
  refine Goes.st (U' := T2.setTop (mkF m 35 #[.val (.long q1), .second, .val (.long v1), .second, .val (.long v3), .second, .val (.long v4), .second, .unset, .unset] [(.long v4)])) (fun t k => XS.lload X2.here hx rfl (hb hby d3_33) rfl k) ?_
  refine Goes.st (U' := T2.setTop (mkF m 38 #[.val (.long q1), .second, .val (.long v1), .second, .val (.long v3), .second, .val (.long v4), .second, .unset, .unset] [(.long (-4417276706812531889 : Int64)), (.long v4)])) (fun t k => X2.ldc2Long hx hown (mvT hZ (hw _ (List.mem_of_getElem? (i := 0) rfl))) (g := (mkF m 35 #[.val (.long q1), .second, .val (.long v1), .second, .val (.long v3), .second, .val (.long v4), .second, .unset, .unset] [(.long v4)])) rfl (hb hby d3_35) t k) ?_
  obtain ⟨_, _, ⟨T5, L5, k5, n5⟩, -, X5, ⟨Lc5, hQ5, l5, y5, z5⟩, st5⟩ := Jvm.LawKit.callS X2 hx (y := (⟨"reelwright/hash/Xxh3CoreAvalanche64PinLaw", "inverse", "(J)J"⟩ : MethodName)) hown (mvT hZ (hw _ (List.mem_of_getElem? (i := 1) rfl))) (mvT hZ (hw _ (List.mem_of_getElem? (i := 2) rfl))) (mvT hZ (hw _ (List.mem_of_getElem? (i := 3) rfl))) (mvT hZ (hw _ (List.mem_of_getElem? (i := 4) rfl))) (by decide) (backOf (W := 2) (rm1 l Z a0 hw [] (-4417276706812531889 : Int64) h0 n0 Z0) hZ (hw _ (List.mem_of_getElem? (i := 4) rfl)) (hw _ (List.mem_of_getElem? (i := 3) rfl)) (by decide) (by decide)) (g := (mkF m 38 #[.val (.long q1), .second, .val (.long v1), .second, .val (.long v3), .second, .val (.long v4), .second, .unset, .unset] [(.long (-4417276706812531889 : Int64)), (.long v4)])) rfl (by rw [hml]; rfl) (argsL := [(.long (-4417276706812531889 : Int64))]) (rest := [(.long v4)]) (lenOf pd_0 rfl) rfl (by show 2 * 0 + _ ≤ _; exact Nat.le_of_eq rfl) (hb hby d3_38) (fun _ _ => ⟨rfl, e2, (by decide : 0 + 0 ≤ _), (by decide : 0 + 0 ≤ _)⟩)
  dsimp only [Pt.U, Pt.locs, Pt.cells, Pt.slots] at X5 l5 y5 z5 st5 hQ5
  subst l5 y5 z5
  obtain ⟨rfl, N5q, e5⟩ := hQ5
  have N5 := Fr.app N2 N5q
  refine Goes.st (U' := T5.setTop (mkF m 41 #[.val (.long q1), .second, .val (.long v1), .second, .val (.long v3), .second, .val (.long v4), .second, .unset, .unset] [(.long (fn1 (-4417276706812531889 : Int64))), (.long v4)])) st5 ?_
  refine Goes.st (U' := T5.setTop (mkF m 42 #[.val (.long q1), .second, .val (.long v1), .second, .val (.long v3), .second, .val (.long v4), .second, .unset, .unset] [(.long (v4 * (fn1 (-4417276706812531889 : Int64))))])) (fun t k => XS.lmul X5.here hx rfl (hb hby d3_41) rfl k) ?_
  obtain ⟨v6, hv6⟩ : ∃ z : Int64, z = (v4 * (fn1 (-4417276706812531889 : Int64))) := ⟨_, rfl⟩
  refine Goes.st (U' := T5.setTop (mkF m 44 #[.val (.long q1), .second, .val (.long v1), .second, .val (.long v3), .second, .val (.long v4), .second, .val (.long v6), .second] [])) (fun t k => (by subst hv6; exact XS.lstore X5.here hx rfl (hb hby d3_42) rfl (l' := #[.val (.long q1), .second, .val (.long v1), .second, .val (.long v3), .second, .val (.long v4), .second, .val (.long (v4 * (fn1 (-4417276706812531889 : Int64)))), .second]) rfl k)) ?_
  refine Goes.st (U' := T5.setTop (mkF m 46 #[.val (.long q1), .second, .val (.long v1), .second, .val (.long v3), .second, .val (.long v4), .second, .val (.long v6), .second] [(.long v6)])) (fun t k => XS.lload X5.here hx rfl (hb hby d3_44) rfl k) ?_
  refine Goes.st (U' := T5.setTop (mkF m 48 #[.val (.long q1), .second, .val (.long v1), .second, .val (.long v3), .second, .val (.long v4), .second, .val (.long v6), .second] [(.long v6), (.long v6)])) (fun t k => XS.lload X5.here hx rfl (hb hby d3_46) rfl k) ?_
  refine Goes.st (U' := T5.setTop (mkF m 50 #[.val (.long q1), .second, .val (.long v1), .second, .val (.long v3), .second, .val (.long v4), .second, .val (.long v6), .second] [(.int (33 : Int32)), (.long v6), (.long v6)])) (fun t k => XS.bipush X5.here hx rfl (hb hby d3_48) k) ?_
  refine Goes.st (U' := T5.setTop (mkF m 51 #[.val (.long q1), .second, .val (.long v1), .second, .val (.long v3), .second, .val (.long v4), .second, .val (.long v6), .second] [(.long ((v6.toUInt64 >>> ((33 : Int32) &&& 0x3f).toInt64.toUInt64).toInt64)), (.long v6)])) (fun t k => XS.lushr X5.here hx rfl (hb hby d3_50) rfl k) ?_
  refine Goes.st (U' := T5.setTop (mkF m 52 #[.val (.long q1), .second, .val (.long v1), .second, .val (.long v3), .second, .val (.long v4), .second, .val (.long v6), .second] [(.long (v6 ^^^ ((v6.toUInt64 >>> ((33 : Int32) &&& 0x3f).toInt64.toUInt64).toInt64)))])) (fun t k => XS.lxor X5.here hx rfl (hb hby d3_51) rfl k) ?_
  refine Goes.retJ X5 hx (BodyLoose.notSynchronized Bd) Bd.returns (hb hby d3_52) (by decide) (by decide) ?_
  show Q3 Z q1 h0 n0 _ T5.heap _
  rw [e5]
  exact ⟨(by subst hv6; subst hv4; subst hv3; subst hv1; rfl), N5, rfl⟩
theorem ef_rm0 (m : MethodId) (q1 : Int64) : entryFrame m #[(.long q1)] maxLocals = mkF m 0 #[.val (.long q1), .second, .unset] [] := by first | (simp [entryFrame, mkF, argsToLocals, Value.category, maxLocals]; done) | rfl
def fn0 (q1 : Int64) : Int32 := (if ((-4417276706812531889 : Int64) * (fn1 (-4417276706812531889 : Int64))) = (1 : Int64) then (if ((1609587929392839161 : Int64) * (fn1 (1609587929392839161 : Int64))) = (1 : Int64) then (if (fn3 (fn2 q1)) = q1 then (1 : Int32) else (0 : Int32)) else (0 : Int32)) else (0 : Int32))
def Q0 (Z : State) (q1 : Int64) (h0 : Heap) (n0 : Nat) (v : Option Value) (h : Heap) (L : List Loc) : Prop := v = some (.int (fn0 q1)) ∧ Fr n0 L ∧ h = h0
set_option maxRecDepth 65536 in
set_option maxHeartbeats 40000000 in
theorem rm0 (l : Launch) (Z : State) (a0 : Array Value) (hw : ∀ d ∈ tables_1, d.before a0 Z = true) (ws : List Jvm.Cond) (q1 : Int64) (h0 : Heap) (n0 : Nat) (Z0 : n0 ≤ h0.size) :
    MetFree l x (head1 (Jvm.Cond.code x code maxLocals ret :: ws) room_1) (fun a U => a = #[(.long q1)] ∧ Z.Warmed39 U.vm ∧ U.heap = h0) (fun _ _ _ _ _ => True) (fun _ U o U' => ∃ v L, o = .returned v ∧ Q0 Z q1 h0 n0 v U'.heap L ∧ FrameEnd U o U' L room_1.cells room_1.slots) := by
  refine MetFree.of_bodySF (plainFor_of_name pn_0) hisR ?_
  intro p e s m args below meth c s₁ Bd hml0 hP hK
  obtain ⟨rfl, hZ, hh⟩ := hP
  have hx := Bd.exec
  have hby := Bd.bytes
  have hml : c.maxLocals = 3 := hml0
  have hown : s.vm.findClass "reelwright/hash/Xxh3CoreAvalanche64PinLaw" = some m.cls := findClass_of_methodNamed Bd.named
  have hnm := (name_of_methodNamed Bd.named Bd.method).1
  have X0 : Stand p l e room_1 s m #[(.long q1)] below meth c s₁ [] 0 0 := Stand.of_body Bd
  have e0 : s₁.heap = h0 := by rw [← hh, Bd.state]; rfl
  have N0 := Fr.nil n0
  show Goes p e s below (fun v h L => Q0 Z q1 h0 n0 v h L) room_1.cells room_1.slots (s₁.setTop (entryFrame m #[(.long q1)] maxLocals))
  refine Goes.st (U' := s₁.setTop (mkF m 0 #[.val (.long q1), .second, .unset] [])) (fun t k => castTop (ef_rm0 m q1) k) ?_
  refine Goes.st (U' := s₁.setTop (mkF m 3 #[.val (.long q1), .second, .unset] [(.long (-4417276706812531889 : Int64))])) (fun t k => X0.ldc2Long hx hown (mvT hZ (hw _ (List.mem_of_getElem? (i := 0) rfl))) (g := (mkF m 0 #[.val (.long q1), .second, .unset] [])) rfl (hb hby at_0) t k) ?_
  refine Goes.st (U' := s₁.setTop (mkF m 6 #[.val (.long q1), .second, .unset] [(.long (-4417276706812531889 : Int64)), (.long (-4417276706812531889 : Int64))])) (fun t k => X0.ldc2Long hx hown (mvT hZ (hw _ (List.mem_of_getElem? (i := 0) rfl))) (g := (mkF m 3 #[.val (.long q1), .second, .unset] [(.long (-4417276706812531889 : Int64))])) rfl (hb hby at_3) t k) ?_
  obtain ⟨_, _, ⟨T1, L1, k1, n1⟩, -, X1, ⟨Lc1, hQ1, l1, y1, z1⟩, st1⟩ := Jvm.LawKit.callS X0 hx (y := (⟨"reelwright/hash/Xxh3CoreAvalanche64PinLaw", "inverse", "(J)J"⟩ : MethodName)) hown (mvT hZ (hw _ (List.mem_of_getElem? (i := 1) rfl))) (mvT hZ (hw _ (List.mem_of_getElem? (i := 2) rfl))) (mvT hZ (hw _ (List.mem_of_getElem? (i := 3) rfl))) (mvT hZ (hw _ (List.mem_of_getElem? (i := 4) rfl))) (by decide) (backOf (W := 2) (rm1 l Z a0 hw [] (-4417276706812531889 : Int64) h0 n0 Z0) hZ (hw _ (List.mem_of_getElem? (i := 4) rfl)) (hw _ (List.mem_of_getElem? (i := 3) rfl)) (by decide) (by decide)) (g := (mkF m 6 #[.val (.long q1), .second, .unset] [(.long (-4417276706812531889 : Int64)), (.long (-4417276706812531889 : Int64))])) rfl (by rw [hml]; rfl) (argsL := [(.long (-4417276706812531889 : Int64))]) (rest := [(.long (-4417276706812531889 : Int64))]) (lenOf pd_0 rfl) rfl (by show 2 * 0 + _ ≤ _; exact Nat.le_of_eq rfl) (hb hby at_6) (fun _ _ => ⟨rfl, e0, (by decide : 0 + 0 ≤ _), (by decide : 0 + 0 ≤ _)⟩)
  dsimp only [Pt.U, Pt.locs, Pt.cells, Pt.slots] at X1 l1 y1 z1 st1 hQ1
  subst l1 y1 z1
  obtain ⟨rfl, N1q, e1⟩ := hQ1
  have N1 := Fr.app N0 N1q
  refine Goes.st (U' := T1.setTop (mkF m 9 #[.val (.long q1), .second, .unset] [(.long (fn1 (-4417276706812531889 : Int64))), (.long (-4417276706812531889 : Int64))])) st1 ?_
  refine Goes.st (U' := T1.setTop (mkF m 10 #[.val (.long q1), .second, .unset] [(.long ((-4417276706812531889 : Int64) * (fn1 (-4417276706812531889 : Int64))))])) (fun t k => XS.lmul X1.here hx rfl (hb hby at_9) rfl k) ?_
  refine Goes.st (U' := T1.setTop (mkF m 11 #[.val (.long q1), .second, .unset] [(.long (1 : Int64)), (.long ((-4417276706812531889 : Int64) * (fn1 (-4417276706812531889 : Int64))))])) (fun t k => XS.lconst X1.here hx rfl (hb hby at_10) k) ?_
  refine Goes.st (U' := T1.setTop (mkF m 12 #[.val (.long q1), .second, .unset] [(.int (lcmpW ((-4417276706812531889 : Int64) * (fn1 (-4417276706812531889 : Int64))) (1 : Int64)))])) (fun t k => XS.lcmp X1.here hx rfl (hb hby at_11) rfl k) ?_
  rcases Decidable.em (((-4417276706812531889 : Int64) * (fn1 (-4417276706812531889 : Int64))) = (1 : Int64)) with hc12 | hc12
  · refine Goes.st (U' := T1.setTop (mkF m 15 #[.val (.long q1), .second, .unset] [])) (fun t k => XS.ifNo X1.here hx rfl (hb hby at_12) rfl ((if0 _ _).trans (teq ((lw_eq _ _).mpr hc12)).2) k) ?_
    refine Goes.st (U' := T1.setTop (mkF m 18 #[.val (.long q1), .second, .unset] [(.long (1609587929392839161 : Int64))])) (fun t k => X1.ldc2Long hx hown (mvT hZ (hw _ (List.mem_of_getElem? (i := 6) rfl))) (g := (mkF m 15 #[.val (.long q1), .second, .unset] [])) rfl (hb hby at_15) t k) ?_
    refine Goes.st (U' := T1.setTop (mkF m 21 #[.val (.long q1), .second, .unset] [(.long (1609587929392839161 : Int64)), (.long (1609587929392839161 : Int64))])) (fun t k => X1.ldc2Long hx hown (mvT hZ (hw _ (List.mem_of_getElem? (i := 6) rfl))) (g := (mkF m 18 #[.val (.long q1), .second, .unset] [(.long (1609587929392839161 : Int64))])) rfl (hb hby at_18) t k) ?_
    obtain ⟨_, _, ⟨T2, L2, k2, n2⟩, -, X2, ⟨Lc2, hQ2, l2, y2, z2⟩, st2⟩ := Jvm.LawKit.callS X1 hx (y := (⟨"reelwright/hash/Xxh3CoreAvalanche64PinLaw", "inverse", "(J)J"⟩ : MethodName)) hown (mvT hZ (hw _ (List.mem_of_getElem? (i := 1) rfl))) (mvT hZ (hw _ (List.mem_of_getElem? (i := 2) rfl))) (mvT hZ (hw _ (List.mem_of_getElem? (i := 3) rfl))) (mvT hZ (hw _ (List.mem_of_getElem? (i := 4) rfl))) (by decide) (backOf (W := 2) (rm1 l Z a0 hw [] (1609587929392839161 : Int64) h0 n0 Z0) hZ (hw _ (List.mem_of_getElem? (i := 4) rfl)) (hw _ (List.mem_of_getElem? (i := 3) rfl)) (by decide) (by decide)) (g := (mkF m 21 #[.val (.long q1), .second, .unset] [(.long (1609587929392839161 : Int64)), (.long (1609587929392839161 : Int64))])) rfl (by rw [hml]; rfl) (argsL := [(.long (1609587929392839161 : Int64))]) (rest := [(.long (1609587929392839161 : Int64))]) (lenOf pd_0 rfl) rfl (by show 2 * 0 + _ ≤ _; exact Nat.le_of_eq rfl) (hb hby at_21) (fun _ _ => ⟨rfl, e1, (by decide : 0 + 0 ≤ _), (by decide : 0 + 0 ≤ _)⟩)
    dsimp only [Pt.U, Pt.locs, Pt.cells, Pt.slots] at X2 l2 y2 z2 st2 hQ2
    subst l2 y2 z2
    obtain ⟨rfl, N2q, e2⟩ := hQ2
    have N2 := Fr.app N1 N2q
    refine Goes.st (U' := T2.setTop (mkF m 24 #[.val (.long q1), .second, .unset] [(.long (fn1 (1609587929392839161 : Int64))), (.long (1609587929392839161 : Int64))])) st2 ?_
    refine Goes.st (U' := T2.setTop (mkF m 25 #[.val (.long q1), .second, .unset] [(.long ((1609587929392839161 : Int64) * (fn1 (1609587929392839161 : Int64))))])) (fun t k => XS.lmul X2.here hx rfl (hb hby at_24) rfl k) ?_
    refine Goes.st (U' := T2.setTop (mkF m 26 #[.val (.long q1), .second, .unset] [(.long (1 : Int64)), (.long ((1609587929392839161 : Int64) * (fn1 (1609587929392839161 : Int64))))])) (fun t k => XS.lconst X2.here hx rfl (hb hby at_25) k) ?_
    refine Goes.st (U' := T2.setTop (mkF m 27 #[.val (.long q1), .second, .unset] [(.int (lcmpW ((1609587929392839161 : Int64) * (fn1 (1609587929392839161 : Int64))) (1 : Int64)))])) (fun t k => XS.lcmp X2.here hx rfl (hb hby at_26) rfl k) ?_
    rcases Decidable.em (((1609587929392839161 : Int64) * (fn1 (1609587929392839161 : Int64))) = (1 : Int64)) with hc27 | hc27
    · refine Goes.st (U' := T2.setTop (mkF m 30 #[.val (.long q1), .second, .unset] [])) (fun t k => XS.ifNo X2.here hx rfl (hb hby at_27) rfl ((if0 _ _).trans (teq ((lw_eq _ _).mpr hc27)).2) k) ?_
      refine Goes.st (U' := T2.setTop (mkF m 31 #[.val (.long q1), .second, .unset] [(.int (1 : Int32))])) (fun t k => XS.iconst X2.here hx rfl (hb hby at_30) k) ?_
      refine Goes.st (U' := T2.setTop (mkF m 35 #[.val (.long q1), .second, .unset] [(.int (1 : Int32))])) (fun t k => XS.goto X2.here hx rfl (pc0 := 31) (pc' := 35) rfl (hb hby at_31) (by decide) (by decide) k) ?_
      refine Goes.st (U' := T2.setTop (mkF m 36 #[.val (.long q1), .second, .val (.int (1 : Int32))] [])) (fun t k => XS.istoreN X2.here hx rfl (hb hby at_35) rfl (l' := #[.val (.long q1), .second, .val (.int (1 : Int32))]) rfl k) ?_
      refine Goes.st (U' := T2.setTop (mkF m 37 #[.val (.long q1), .second, .val (.int (1 : Int32))] [(.int (1 : Int32))])) (fun t k => XS.iloadN X2.here hx rfl (hb hby at_36) rfl k) ?_
      refine Goes.st (U' := T2.setTop (mkF m 40 #[.val (.long q1), .second, .val (.int (1 : Int32))] [])) (fun t k => XS.ifNo X2.here hx rfl (hb hby at_37) rfl ((if0 _ _).trans (feq (by decide : ¬ ((1 : Int32) = (0 : Int32)))).1) k) ?_
      refine Goes.st (U' := T2.setTop (mkF m 41 #[.val (.long q1), .second, .val (.int (1 : Int32))] [(.long q1)])) (fun t k => XS.lloadN X2.here hx rfl (hb hby at_40) rfl k) ?_
      obtain ⟨_, _, ⟨T3, L3, k3, n3⟩, -, X3, ⟨Lc3, hQ3, l3, y3, z3⟩, st3⟩ := Jvm.LawKit.callS X2 hx (y := (⟨"reelwright/hash/Xxh3Core", "avalanche64", "(J)J"⟩ : MethodName)) hown (mvT hZ (hw _ (List.mem_of_getElem? (i := 7) rfl))) (mvT hZ (hw _ (List.mem_of_getElem? (i := 8) rfl))) (mvT hZ (hw _ (List.mem_of_getElem? (i := 9) rfl))) (mvT hZ (hw _ (List.mem_of_getElem? (i := 10) rfl))) (by decide) (backOf (W := 0) (rm2 l Z a0 hw [] q1 h0 n0 Z0) hZ (hw _ (List.mem_of_getElem? (i := 10) rfl)) (hw _ (List.mem_of_getElem? (i := 9) rfl)) (by decide) (by decide)) (g := (mkF m 41 #[.val (.long q1), .second, .val (.int (1 : Int32))] [(.long q1)])) rfl (by rw [hml]; rfl) (argsL := [(.long q1)]) (rest := []) (lenOf pd_0 rfl) rfl (by show 2 * 0 + _ ≤ _; exact Nat.le_of_eq rfl) (hb hby at_41) (fun _ _ => ⟨rfl, e2, (by decide : 0 + 0 ≤ _), (by decide : 0 + 0 ≤ _)⟩)
      dsimp only [Pt.U, Pt.locs, Pt.cells, Pt.slots] at X3 l3 y3 z3 st3 hQ3
      subst l3 y3 z3
      obtain ⟨rfl, N3q, e3⟩ := hQ3
      have N3 := Fr.app N2 N3q
      refine Goes.st (U' := T3.setTop (mkF m 44 #[.val (.long q1), .second, .val (.int (1 : Int32))] [(.long (fn2 q1))])) st3 ?_
      obtain ⟨_, _, ⟨T4, L4, k4, n4⟩, -, X4, ⟨Lc4, hQ4, l4, y4, z4⟩, st4⟩ := Jvm.LawKit.callS X3 hx (y := (⟨"reelwright/hash/Xxh3CoreAvalanche64PinLaw", "unmix", "(J)J"⟩ : MethodName)) hown (mvT hZ (hw _ (List.mem_of_getElem? (i := 13) rfl))) (mvT hZ (hw _ (List.mem_of_getElem? (i := 14) rfl))) (mvT hZ (hw _ (List.mem_of_getElem? (i := 3) rfl))) (mvT hZ (hw _ (List.mem_of_getElem? (i := 15) rfl))) (by decide) (backOf (W := 0) (rm3 l Z a0 hw [] (fn2 q1) h0 n0 Z0) hZ (hw _ (List.mem_of_getElem? (i := 15) rfl)) (hw _ (List.mem_of_getElem? (i := 3) rfl)) (by decide) (by decide)) (g := (mkF m 44 #[.val (.long q1), .second, .val (.int (1 : Int32))] [(.long (fn2 q1))])) rfl (by rw [hml]; rfl) (argsL := [(.long (fn2 q1))]) (rest := []) (lenOf pd_0 rfl) rfl (by show 2 * 0 + _ ≤ _; exact Nat.le_of_eq rfl) (hb hby at_44) (fun _ _ => ⟨rfl, e3, (by decide : 0 + 0 ≤ _), (by decide : 0 + 0 ≤ _)⟩)
      dsimp only [Pt.U, Pt.locs, Pt.cells, Pt.slots] at X4 l4 y4 z4 st4 hQ4
      subst l4 y4 z4
      obtain ⟨rfl, N4q, e4⟩ := hQ4
      have N4 := Fr.app N3 N4q
      refine Goes.st (U' := T4.setTop (mkF m 47 #[.val (.long q1), .second, .val (.int (1 : Int32))] [(.long (fn3 (fn2 q1)))])) st4 ?_
      refine Goes.st (U' := T4.setTop (mkF m 48 #[.val (.long q1), .second, .val (.int (1 : Int32))] [(.long q1), (.long (fn3 (fn2 q1)))])) (fun t k => XS.lloadN X4.here hx rfl (hb hby at_47) rfl k) ?_
      refine Goes.st (U' := T4.setTop (mkF m 49 #[.val (.long q1), .second, .val (.int (1 : Int32))] [(.int (lcmpW (fn3 (fn2 q1)) q1))])) (fun t k => XS.lcmp X4.here hx rfl (hb hby at_48) rfl k) ?_
      rcases Decidable.em ((fn3 (fn2 q1)) = q1) with hc49 | hc49
      · refine Goes.st (U' := T4.setTop (mkF m 52 #[.val (.long q1), .second, .val (.int (1 : Int32))] [])) (fun t k => XS.ifNo X4.here hx rfl (hb hby at_49) rfl ((if0 _ _).trans (teq ((lw_eq _ _).mpr hc49)).2) k) ?_
        refine Goes.st (U' := T4.setTop (mkF m 53 #[.val (.long q1), .second, .val (.int (1 : Int32))] [(.int (1 : Int32))])) (fun t k => XS.iconst X4.here hx rfl (hb hby at_52) k) ?_
        refine Goes.st (U' := T4.setTop (mkF m 57 #[.val (.long q1), .second, .val (.int (1 : Int32))] [(.int (1 : Int32))])) (fun t k => XS.goto X4.here hx rfl (pc0 := 53) (pc' := 57) rfl (hb hby at_53) (by decide) (by decide) k) ?_
        refine Goes.retZ X4 hx (BodyLoose.notSynchronized Bd) Bd.returns (hb hby at_57) rfl (by decide) (by decide) ?_
        show Q0 Z q1 h0 n0 _ T4.heap _
        rw [e4]
        exact ⟨(congrArg some (congrArg _ (by unfold fn0; rw [if_pos hc12]; rw [if_pos hc27]; rw [if_pos hc49]))), N4, rfl⟩
      · refine Goes.st (U' := T4.setTop (mkF m 56 #[.val (.long q1), .second, .val (.int (1 : Int32))] [])) (fun t k => XS.ifYes X4.here hx rfl (pc0 := 49) (pc' := 56) rfl (hb hby at_49) rfl ((if0 _ _).trans (feq (fun q => hc49 ((lw_eq _ _).mp q))).2) (by decide) (by decide) k) ?_
        refine Goes.st (U' := T4.setTop (mkF m 57 #[.val (.long q1), .second, .val (.int (1 : Int32))] [(.int (0 : Int32))])) (fun t k => XS.iconst X4.here hx rfl (hb hby at_56) k) ?_
        refine Goes.retZ X4 hx (BodyLoose.notSynchronized Bd) Bd.returns (hb hby at_57) rfl (by decide) (by decide) ?_
        show Q0 Z q1 h0 n0 _ T4.heap _
        rw [e4]
        exact ⟨(congrArg some (congrArg _ (by unfold fn0; rw [if_pos hc12]; rw [if_pos hc27]; rw [if_neg hc49]))), N4, rfl⟩
    · refine Goes.st (U' := T2.setTop (mkF m 34 #[.val (.long q1), .second, .unset] [])) (fun t k => XS.ifYes X2.here hx rfl (pc0 := 27) (pc' := 34) rfl (hb hby at_27) rfl ((if0 _ _).trans (feq (fun q => hc27 ((lw_eq _ _).mp q))).2) (by decide) (by decide) k) ?_
      refine Goes.st (U' := T2.setTop (mkF m 35 #[.val (.long q1), .second, .unset] [(.int (0 : Int32))])) (fun t k => XS.iconst X2.here hx rfl (hb hby at_34) k) ?_
      refine Goes.st (U' := T2.setTop (mkF m 36 #[.val (.long q1), .second, .val (.int (0 : Int32))] [])) (fun t k => XS.istoreN X2.here hx rfl (hb hby at_35) rfl (l' := #[.val (.long q1), .second, .val (.int (0 : Int32))]) rfl k) ?_
      refine Goes.st (U' := T2.setTop (mkF m 37 #[.val (.long q1), .second, .val (.int (0 : Int32))] [(.int (0 : Int32))])) (fun t k => XS.iloadN X2.here hx rfl (hb hby at_36) rfl k) ?_
      refine Goes.st (U' := T2.setTop (mkF m 56 #[.val (.long q1), .second, .val (.int (0 : Int32))] [])) (fun t k => XS.ifYes X2.here hx rfl (pc0 := 37) (pc' := 56) rfl (hb hby at_37) rfl ((if0 _ _).trans (teq (rfl : (0 : Int32) = (0 : Int32))).1) (by decide) (by decide) k) ?_
      refine Goes.st (U' := T2.setTop (mkF m 57 #[.val (.long q1), .second, .val (.int (0 : Int32))] [(.int (0 : Int32))])) (fun t k => XS.iconst X2.here hx rfl (hb hby at_56) k) ?_
      refine Goes.retZ X2 hx (BodyLoose.notSynchronized Bd) Bd.returns (hb hby at_57) rfl (by decide) (by decide) ?_
      show Q0 Z q1 h0 n0 _ T2.heap _
      rw [e2]
      exact ⟨(congrArg some (congrArg _ (by unfold fn0; rw [if_pos hc12]; rw [if_neg hc27]))), N2, rfl⟩
  · refine Goes.st (U' := T1.setTop (mkF m 34 #[.val (.long q1), .second, .unset] [])) (fun t k => XS.ifYes X1.here hx rfl (pc0 := 12) (pc' := 34) rfl (hb hby at_12) rfl ((if0 _ _).trans (feq (fun q => hc12 ((lw_eq _ _).mp q))).2) (by decide) (by decide) k) ?_
    refine Goes.st (U' := T1.setTop (mkF m 35 #[.val (.long q1), .second, .unset] [(.int (0 : Int32))])) (fun t k => XS.iconst X1.here hx rfl (hb hby at_34) k) ?_
    refine Goes.st (U' := T1.setTop (mkF m 36 #[.val (.long q1), .second, .val (.int (0 : Int32))] [])) (fun t k => XS.istoreN X1.here hx rfl (hb hby at_35) rfl (l' := #[.val (.long q1), .second, .val (.int (0 : Int32))]) rfl k) ?_
    refine Goes.st (U' := T1.setTop (mkF m 37 #[.val (.long q1), .second, .val (.int (0 : Int32))] [(.int (0 : Int32))])) (fun t k => XS.iloadN X1.here hx rfl (hb hby at_36) rfl k) ?_
    refine Goes.st (U' := T1.setTop (mkF m 56 #[.val (.long q1), .second, .val (.int (0 : Int32))] [])) (fun t k => XS.ifYes X1.here hx rfl (pc0 := 37) (pc' := 56) rfl (hb hby at_37) rfl ((if0 _ _).trans (teq (rfl : (0 : Int32) = (0 : Int32))).1) (by decide) (by decide) k) ?_
    refine Goes.st (U' := T1.setTop (mkF m 57 #[.val (.long q1), .second, .val (.int (0 : Int32))] [(.int (0 : Int32))])) (fun t k => XS.iconst X1.here hx rfl (hb hby at_56) k) ?_
    refine Goes.retZ X1 hx (BodyLoose.notSynchronized Bd) Bd.returns (hb hby at_57) rfl (by decide) (by decide) ?_
    show Q0 Z q1 h0 n0 _ T1.heap _
    rw [e1]
    exact ⟨(congrArg some (congrArg _ (by unfold fn0; rw [if_neg hc12]))), N1, rfl⟩
theorem own_x33 (x : Int64) : (((x.toUInt64 >>> ((33 : Int32) &&& 0x3f).toInt64.toUInt64).toInt64)).toBitVec = x.toBitVec >>> 33 := rfl
theorem own_x32 (x : Int64) : (((x.toUInt64 >>> ((32 : Int32) &&& 0x3f).toInt64.toUInt64).toInt64)).toBitVec = x.toBitVec >>> 32 := rfl
theorem own_x29 (x : Int64) : (((x.toUInt64 >>> ((29 : Int32) &&& 0x3f).toInt64.toUInt64).toInt64)).toBitVec = x.toBitVec >>> 29 := rfl
theorem own_x58 (x : Int64) : (((x.toUInt64 >>> ((58 : Int32) &&& 0x3f).toInt64.toUInt64).toInt64)).toBitVec = x.toBitVec >>> 58 := rfl
theorem own_bv (x : BitVec 64) (k : Nat) (hk : 64 ≤ k + k) : (x ^^^ x >>> k) ^^^ ((x ^^^ x >>> k) >>> k) = x := by
  rw [BitVec.ushiftRight_xor_distrib, ← BitVec.shiftRight_add, BitVec.ushiftRight_eq_zero hk, BitVec.xor_zero, BitVec.xor_assoc, BitVec.xor_self, BitVec.xor_zero]
theorem own_bv3 (x : BitVec 64) (k : Nat) (hk : 64 ≤ k + k + k) : (x ^^^ x >>> k) ^^^ ((x ^^^ x >>> k) >>> k) ^^^ ((x ^^^ x >>> k) >>> (k + k)) = x := by
  rw [BitVec.ushiftRight_xor_distrib, BitVec.ushiftRight_xor_distrib, ← BitVec.shiftRight_add, ← BitVec.shiftRight_add, show k + (k + k) = k + k + k by omega, BitVec.ushiftRight_eq_zero hk]
  generalize x >>> k = y
  generalize x >>> (k + k) = z
  rw [BitVec.xor_zero, BitVec.xor_assoc x y, ← BitVec.xor_assoc y y z, BitVec.xor_self, BitVec.zero_xor, BitVec.xor_assoc, BitVec.xor_self, BitVec.xor_zero]
theorem own_mul (a b c : Int64) (h : b * c = 1) : a * b * c = a := by rw [Int64.mul_assoc, h, Int64.mul_one]
theorem own_u33 (x : Int64) : (x ^^^ ((x.toUInt64 >>> ((33 : Int32) &&& 0x3f).toInt64.toUInt64).toInt64)) ^^^ (((x ^^^ ((x.toUInt64 >>> ((33 : Int32) &&& 0x3f).toInt64.toUInt64).toInt64)).toUInt64 >>> ((33 : Int32) &&& 0x3f).toInt64.toUInt64).toInt64) = x := by
  apply Int64.toBitVec_inj.mp
  simp only [Int64.toBitVec_xor, own_x33]
  exact own_bv x.toBitVec 33 (by decide)
theorem own_u32 (x : Int64) : (x ^^^ ((x.toUInt64 >>> ((32 : Int32) &&& 0x3f).toInt64.toUInt64).toInt64)) ^^^ (((x ^^^ ((x.toUInt64 >>> ((32 : Int32) &&& 0x3f).toInt64.toUInt64).toInt64)).toUInt64 >>> ((32 : Int32) &&& 0x3f).toInt64.toUInt64).toInt64) = x := by
  apply Int64.toBitVec_inj.mp
  simp only [Int64.toBitVec_xor, own_x32]
  exact own_bv x.toBitVec 32 (by decide)
theorem own_u29 (x : Int64) : (x ^^^ ((x.toUInt64 >>> ((29 : Int32) &&& 0x3f).toInt64.toUInt64).toInt64)) ^^^ (((x ^^^ ((x.toUInt64 >>> ((29 : Int32) &&& 0x3f).toInt64.toUInt64).toInt64)).toUInt64 >>> ((29 : Int32) &&& 0x3f).toInt64.toUInt64).toInt64) ^^^ (((x ^^^ ((x.toUInt64 >>> ((29 : Int32) &&& 0x3f).toInt64.toUInt64).toInt64)).toUInt64 >>> ((58 : Int32) &&& 0x3f).toInt64.toUInt64).toInt64) = x := by
  apply Int64.toBitVec_inj.mp
  simp only [Int64.toBitVec_xor, own_x29, own_x58]
  exact own_bv3 x.toBitVec 29 (by decide)
theorem own_inv2 : (-4417276706812531889 : Int64) * fn1 (-4417276706812531889 : Int64) = 1 := by decide +kernel
theorem own_inv3 : (1609587929392839161 : Int64) * fn1 (1609587929392839161 : Int64) = 1 := by decide +kernel
theorem own_un (q : Int64) : fn3 (fn2 q) = q := by
  unfold fn3 fn2
  dsimp only
  rw [own_u32, own_mul _ _ _ own_inv3, own_u29, own_mul _ _ _ own_inv2, own_u33]
theorem plain (q : Int64) : fn0 q = 1 := by
  unfold fn0
  rw [if_pos own_inv2, if_pos own_inv3, if_pos (own_un q)]
set_option maxRecDepth 65536 in
set_option maxHeartbeats 40000000 in
theorem comes_1 {Post : Tables → Env → Array Value → State → Outcome → State → Prop} (hpost : ∀ tb e args s v u, (limb_1_1.after args s (.returned v) u = true ∧ limb_1_2.after args s (.returned v) u = true ∧ True) → FrameEnd s (.returned v) u (Jvm.fieldLocs frame_1_writes args s ++ Jvm.arrayLocs frame_1_arrays args s ++ Jvm.staticLocs frame_1_statics s) 0 0 → Post tb e args s (.returned v) u) :
    ArmFor flags0 classFile x code maxLocals ret World_1 tables_1 room_1 Calls_1 rest_1 Pre_1 Post := by
  intro l hfl _ _ p e ha hc hk s m args below hf hA hF happ hP
  obtain ⟨hcalls, hrest, hpre⟩ := hP
  obtain ⟨-, -, -, hnamed, -, -, -, hat⟩ := (Spec.applies_iff hf).mp happ
  obtain ⟨hg, hn⟩ := and_e (Cond.before_iff.mp (show (Jvm.Cond.and given_1 narrow_1).before args s = true from hpre))
  obtain ⟨gg1, gg2⟩ := and_e hg
  obtain ⟨w0, rfl⟩ : ∃ w0 : Value, args = #[w0] := by
    have hs : args.size = 1 := by simpa [Cond.value, given_1] using gg1
    obtain ⟨L⟩ := args
    match L, hs with
    | [w0], _ => exact ⟨w0, rfl⟩
  have hw := fun d (hd : d ∈ tables_1) => atoms_spec (ws := Jvm.Cond.code x code maxLocals ret :: tables_1) hat d (List.mem_cons_of_mem _ hd)
  obtain ⟨i0, ei0⟩ := isL_v gg2
  obtain rfl : w0 = (.long i0) := Option.some.inj ei0
  obtain ⟨n, o, h1, h2, h3, v, L, rfl, hQ, hq⟩ := rm0 l s _ hw tables_1 i0 s.heap s.heap.size (Nat.le_refl _) p e ha hc hk s m _ below hf ((Spec.applies_iff_loose hf).mp happ).1 ⟨rfl, State.Warmed39.refl s, rfl⟩ trivial
  obtain ⟨hv, N, -⟩ := hQ
  rw [plain] at hv
  subst hv
  exact ⟨n, _, h1, h2, h3, hpost _ _ _ _ _ _ ⟨Cond.after_iff.mpr rfl, Cond.after_iff.mpr (eq_i res_at (Term.int_eval (1)) rfl), trivial⟩ ⟨hq.1, hq.2.1, (hq.2.2.sift fun y hy => Or.inr (N y hy)).mono (by decide) (by decide)⟩⟩
theorem main_1_1 : Claimed_1_1 := comes_1 fun _ _ _ _ _ _ h hF => ⟨h.1, hF⟩
theorem main_1_2 : Claimed_1_2 := comes_1 fun _ _ _ _ _ _ h hF => ⟨h.2.1, hF⟩
end Jvm.Pilot.@@N@@
namespace Jvm.Pilot.@@N@@
open Jvm Jvm.ClassFile Sem Op Lib Jvm.Free Jvm.Stand Jvm.Pilot.@@N@@.Jvm.D
/-! MADE BY PROGRAM (witnessworld.py) out of the Statement's table words and the real class files: 10 classes; the members and pool entries that the words name. The judged class is class 1, her method 3. -/
namespace start1
open Jvm.ClassFile
def u (s : String) : CpInfo := .utf8 (stringToUtf16 s)
/-- a pool by its gaps: so many unusable entries, then the entry; so many at the end -/
def gap : Nat → List CpInfo → List CpInfo
  | 0, r => r
  | n + 1, r => .unusable :: gap n r
def poolList (es : List (Nat × CpInfo)) (last : Nat) : List CpInfo := es.foldr (fun e r => gap e.1 (e.2 :: r)) (gap last [])
def pool (es : List (Nat × CpInfo)) (last : Nat) : Array CpInfo := ⟨poolList es last⟩
def fileOf (pool : Array CpInfo) (this : Nat) (attrs : Array Attribute := #[]) (ms : Array MethodInfo := #[]) (fl : Nat := 33) (sup : Nat := 0) (ifs : Array Nat := #[]) (fds : Array FieldInfo := #[]) : ClassFile where
  minorVersion := 0
  majorVersion := 65
  constantPool := pool
  accessFlags := fl
  thisClass := this
  superClass := sup
  interfaces := ifs
  fields := fds
  methods := ms
  attributes := attrs
def plain (name : String) (sup : Option ClassId) : Class where
  name := name
  kind := .ordinary
  loader := none
  accessFlags := 33
  super := sup
  interfaces := #[]
  cf := none
  fields := #[]
  methods := #[]
  instanceTypes := #[]
  staticTypes := #[]
  resolved := #[]
  callSites := []
  init := .initialized
  statics := none
  mirror := none

def pool0 : Array CpInfo := pool [(5, u "<init>"), (0, u "()V"), (1, .class_ 10), (1, u "java/lang/Object")] 113

def k0m0 : Method := { name := "<init>", desc := "()V", sig := { parameters := [], returnType := none }, accessFlags := 1, code := none }
/-- java/lang/Object -/
def k0 : Class := { plain "java/lang/Object" none with
  accessFlags := 33
  interfaces := #[]
  cf := some (fileOf pool0 8 #[] #[{ accessFlags := 1, nameIndex := 5, descriptorIndex := 6, attributes := #[] }] 33 0 #[] #[])
  fields := #[]
  methods := #[k0m0]
  instanceTypes := #[]
  staticTypes := #[]
  resolved := Array.replicate 124 none
  statics := none }

def pool1 : Array CpInfo := pool [(2, .class_ 4), (1, u "java/lang/Object"), (0, u "<init>"), (0, u "()V"), (0, .long 2), (1, .class_ 10), (0, u "reelwright/hash/Xxh3CoreAvalanche64PinLaw"), (0, .long 1609587929392839161), (1, .methodref 9 14), (0, .nameAndType 15 16), (0, u "inverse"), (0, u "(J)J"), (0, .long 14029467366897019727), (1, .methodref 20 21), (0, .class_ 22), (0, .nameAndType 23 16), (0, u "reelwright/hash/Xxh3Core"), (0, u "avalanche64"), (0, .methodref 9 25), (0, .nameAndType 26 16), (0, u "unmix"), (0, u "P2"), (0, u "J"), (1, u "P3"), (2, u "law"), (0, u "(J)Z")] 3

def k1m0 : Method := { name := "<init>", desc := "()V", sig := { parameters := [], returnType := none }, accessFlags := 2, code := none }
def k1c1 : Code := { maxStack := 8, maxLocals := 4, code := method_2_code, exceptionTable := #[], attributes := #[] }
def k1m1 : Method := { name := "inverse", desc := "(J)J", sig := { parameters := [.long], returnType := some .long }, accessFlags := 10, code := some k1c1 }
def k1c2 : Code := { maxStack := 5, maxLocals := 10, code := method_3_code, exceptionTable := #[], attributes := #[] }
def k1m2 : Method := { name := "unmix", desc := "(J)J", sig := { parameters := [.long], returnType := some .long }, accessFlags := 10, code := some k1c2 }
def k1c3 : Code := { maxStack := 4, maxLocals := 3, code := code, exceptionTable := #[], attributes := #[] }
def k1m3 : Method := { name := "law", desc := "(J)Z", sig := { parameters := [.long], returnType := some .boolean }, accessFlags := 9, code := some k1c3 }
/-- reelwright/hash/Xxh3CoreAvalanche64PinLaw -/
def k1 : Class := { plain "reelwright/hash/Xxh3CoreAvalanche64PinLaw" (some 0) with
  accessFlags := 49
  interfaces := #[]
  cf := some (fileOf pool1 9 #[] #[{ accessFlags := 2, nameIndex := 5, descriptorIndex := 6, attributes := #[] }, { accessFlags := 10, nameIndex := 15, descriptorIndex := 16, attributes := #[] }, { accessFlags := 10, nameIndex := 26, descriptorIndex := 16, attributes := #[] }, { accessFlags := 9, nameIndex := 33, descriptorIndex := 34, attributes := #[] }] 49 2 #[] #[{ accessFlags := 26, nameIndex := 27, descriptorIndex := 28, attributes := #[] }, { accessFlags := 26, nameIndex := 30, descriptorIndex := 28, attributes := #[] }])
  fields := #[{ name := "P2", type := .long, accessFlags := 26, slot := 0, constantValue := 0 }, { name := "P3", type := .long, accessFlags := 26, slot := 1, constantValue := 0 }]
  methods := #[k1m0, k1m1, k1m2, k1m3]
  instanceTypes := #[]
  staticTypes := #[.long, .long]
  resolved := Array.replicate 38 none
  statics := none }

def pool2 : Array CpInfo := pool [(1, .class_ 2), (0, u "reelwright/hash/Hasher"), (0, .class_ 4), (0, u "java/lang/Object")] 6

/-- reelwright/hash/Hasher -/
def k2 : Class := { plain "reelwright/hash/Hasher" (some 0) with
  accessFlags := 1537
  interfaces := #[]
  cf := some (fileOf pool2 1 #[] #[] 1537 3 #[] #[])
  fields := #[]
  methods := #[]
  instanceTypes := #[]
  staticTypes := #[]
  resolved := Array.replicate 11 none
  statics := none }

def pool3 : Array CpInfo := pool [(1, .class_ 2), (0, u "reelwright/hash/Xxh3Core"), (3, .class_ 8), (1, u "java/lang/Object"), (0, u "<init>"), (0, u "()V"), (4, .long 14029467366897019727), (1, .long 1609587929392839161), (11, u "accumulators"), (0, u "[J"), (18, u "held"), (0, u "Ljava/nio/ByteBuffer;"), (2, u "lastTaken"), (13, u "length"), (0, u "J"), (38, u "stripesInBlock"), (0, u "I"), (2, u "BLOCK_KEYS"), (19, u "(J)J"), (2, u "SCRAMBLE_KEYS"), (26, u "LAST_STRIPE_KEYS"), (2, u "SECRET"), (47, .class_ 213), (0, u "reelwright/hash/Hasher"), (0, u "PRIME32_1"), (1, u "PRIME32_2"), (0, u "PRIME32_3"), (0, u "PRIME64_1"), (0, u "PRIME64_2"), (0, u "PRIME64_3"), (0, u "PRIME64_4"), (0, u "PRIME64_5"), (0, u "PRIME_MX1"), (0, u "PRIME_MX2"), (2, u "SHORT_MAX"), (1, u "MID_MIN"), (1, u "SECRET_LENGTH"), (1, u "MID_SECRET_START"), (1, u "MID_SECRET_LAST"), (1, u "MERGE_SECRET_START"), (1, u "STRIPE"), (1, u "LANES"), (1, u "STRIPES_PER_BLOCK"), (1, u "SCRAMBLE_SECRET"), (0, u "LAST_STRIPE_SECRET"), (1, u "HELD"), (14, u "avalanche64")] 8

def k3m0 : Method := { name := "<init>", desc := "()V", sig := { parameters := [], returnType := none }, accessFlags := 0, code := none }
def k3c1 : Code := { maxStack := 5, maxLocals := 4, code := prog_17_method_19_code, exceptionTable := #[], attributes := #[] }
def k3m1 : Method := { name := "avalanche64", desc := "(J)J", sig := { parameters := [.long], returnType := some .long }, accessFlags := 8, code := some k3c1 }
/-- reelwright/hash/Xxh3Core -/
def k3 : Class := { plain "reelwright/hash/Xxh3Core" (some 0) with
  accessFlags := 1056
  interfaces := #[2]
  cf := some (fileOf pool3 1 #[] #[{ accessFlags := 0, nameIndex := 9, descriptorIndex := 10, attributes := #[] }, { accessFlags := 8, nameIndex := 263, descriptorIndex := 131, attributes := #[] }] 1056 6 #[212] #[{ accessFlags := 24, nameIndex := 214, descriptorIndex := 68, attributes := #[] }, { accessFlags := 24, nameIndex := 216, descriptorIndex := 68, attributes := #[] }, { accessFlags := 24, nameIndex := 217, descriptorIndex := 68, attributes := #[] }, { accessFlags := 24, nameIndex := 218, descriptorIndex := 68, attributes := #[] }, { accessFlags := 24, nameIndex := 219, descriptorIndex := 68, attributes := #[] }, { accessFlags := 24, nameIndex := 220, descriptorIndex := 68, attributes := #[] }, { accessFlags := 24, nameIndex := 221, descriptorIndex := 68, attributes := #[] }, { accessFlags := 24, nameIndex := 222, descriptorIndex := 68, attributes := #[] }, { accessFlags := 24, nameIndex := 223, descriptorIndex := 68, attributes := #[] }, { accessFlags := 24, nameIndex := 224, descriptorIndex := 68, attributes := #[] }, { accessFlags := 24, nameIndex := 227, descriptorIndex := 108, attributes := #[] }, { accessFlags := 24, nameIndex := 229, descriptorIndex := 108, attributes := #[] }, { accessFlags := 24, nameIndex := 231, descriptorIndex := 108, attributes := #[] }, { accessFlags := 24, nameIndex := 233, descriptorIndex := 108, attributes := #[] }, { accessFlags := 24, nameIndex := 235, descriptorIndex := 108, attributes := #[] }, { accessFlags := 24, nameIndex := 237, descriptorIndex := 108, attributes := #[] }, { accessFlags := 26, nameIndex := 239, descriptorIndex := 108, attributes := #[] }, { accessFlags := 26, nameIndex := 241, descriptorIndex := 108, attributes := #[] }, { accessFlags := 26, nameIndex := 243, descriptorIndex := 108, attributes := #[] }, { accessFlags := 26, nameIndex := 245, descriptorIndex := 108, attributes := #[] }, { accessFlags := 26, nameIndex := 246, descriptorIndex := 108, attributes := #[] }, { accessFlags := 26, nameIndex := 248, descriptorIndex := 108, attributes := #[] }, { accessFlags := 26, nameIndex := 164, descriptorIndex := 50, attributes := #[] }, { accessFlags := 26, nameIndex := 111, descriptorIndex := 30, attributes := #[] }, { accessFlags := 26, nameIndex := 161, descriptorIndex := 30, attributes := #[] }, { accessFlags := 26, nameIndex := 134, descriptorIndex := 30, attributes := #[] }, { accessFlags := 18, nameIndex := 29, descriptorIndex := 30, attributes := #[] }, { accessFlags := 2, nameIndex := 107, descriptorIndex := 108, attributes := #[] }, { accessFlags := 18, nameIndex := 49, descriptorIndex := 50, attributes := #[] }, { accessFlags := 18, nameIndex := 53, descriptorIndex := 50, attributes := #[] }, { accessFlags := 2, nameIndex := 67, descriptorIndex := 68, attributes := #[] }])
  fields := #[{ name := "PRIME32_1", type := .long, accessFlags := 24, slot := 0, constantValue := 0 }, { name := "PRIME32_2", type := .long, accessFlags := 24, slot := 1, constantValue := 0 }, { name := "PRIME32_3", type := .long, accessFlags := 24, slot := 2, constantValue := 0 }, { name := "PRIME64_1", type := .long, accessFlags := 24, slot := 3, constantValue := 0 }, { name := "PRIME64_2", type := .long, accessFlags := 24, slot := 4, constantValue := 0 }, { name := "PRIME64_3", type := .long, accessFlags := 24, slot := 5, constantValue := 0 }, { name := "PRIME64_4", type := .long, accessFlags := 24, slot := 6, constantValue := 0 }, { name := "PRIME64_5", type := .long, accessFlags := 24, slot := 7, constantValue := 0 }, { name := "PRIME_MX1", type := .long, accessFlags := 24, slot := 8, constantValue := 0 }, { name := "PRIME_MX2", type := .long, accessFlags := 24, slot := 9, constantValue := 0 }, { name := "SHORT_MAX", type := .int, accessFlags := 24, slot := 10, constantValue := 0 }, { name := "MID_MIN", type := .int, accessFlags := 24, slot := 11, constantValue := 0 }, { name := "SECRET_LENGTH", type := .int, accessFlags := 24, slot := 12, constantValue := 0 }, { name := "MID_SECRET_START", type := .int, accessFlags := 24, slot := 13, constantValue := 0 }, { name := "MID_SECRET_LAST", type := .int, accessFlags := 24, slot := 14, constantValue := 0 }, { name := "MERGE_SECRET_START", type := .int, accessFlags := 24, slot := 15, constantValue := 0 }, { name := "STRIPE", type := .int, accessFlags := 26, slot := 16, constantValue := 0 }, { name := "LANES", type := .int, accessFlags := 26, slot := 17, constantValue := 0 }, { name := "STRIPES_PER_BLOCK", type := .int, accessFlags := 26, slot := 18, constantValue := 0 }, { name := "SCRAMBLE_SECRET", type := .int, accessFlags := 26, slot := 19, constantValue := 0 }, { name := "LAST_STRIPE_SECRET", type := .int, accessFlags := 26, slot := 20, constantValue := 0 }, { name := "HELD", type := .int, accessFlags := 26, slot := 21, constantValue := 0 }, { name := "SECRET", type := (.object "java/nio/ByteBuffer"), accessFlags := 26, slot := 22, constantValue := 0 }, { name := "BLOCK_KEYS", type := (.array .long), accessFlags := 26, slot := 23, constantValue := 0 }, { name := "LAST_STRIPE_KEYS", type := (.array .long), accessFlags := 26, slot := 24, constantValue := 0 }, { name := "SCRAMBLE_KEYS", type := (.array .long), accessFlags := 26, slot := 25, constantValue := 0 }, { name := "accumulators", type := (.array .long), accessFlags := 18, slot := 0, constantValue := 0 }, { name := "stripesInBlock", type := .int, accessFlags := 2, slot := 1, constantValue := 0 }, { name := "held", type := (.object "java/nio/ByteBuffer"), accessFlags := 18, slot := 2, constantValue := 0 }, { name := "lastTaken", type := (.object "java/nio/ByteBuffer"), accessFlags := 18, slot := 3, constantValue := 0 }, { name := "length", type := .long, accessFlags := 2, slot := 4, constantValue := 0 }]
  methods := #[k3m0, k3m1]
  instanceTypes := #[(.array .long), .int, (.object "java/nio/ByteBuffer"), (.object "java/nio/ByteBuffer"), .long]
  staticTypes := #[.long, .long, .long, .long, .long, .long, .long, .long, .long, .long, .int, .int, .int, .int, .int, .int, .int, .int, .int, .int, .int, .int, (.object "java/nio/ByteBuffer"), (.array .long), (.array .long), (.array .long)]
  resolved := Array.replicate 272 none
  statics := none }

def pool4 : Array CpInfo := pool [(1, u "java/lang/Cloneable"), (0, .class_ 1), (0, u "java/lang/Object"), (0, .class_ 3)] 3

/-- java/lang/Cloneable -/
def k4 : Class := { plain "java/lang/Cloneable" (some 0) with
  accessFlags := 1537
  interfaces := #[]
  cf := some (fileOf pool4 2 #[] #[] 1537 4 #[] #[])
  fields := #[]
  methods := #[]
  instanceTypes := #[]
  staticTypes := #[]
  resolved := Array.replicate 8 none
  statics := none }

def pool5 : Array CpInfo := pool [(1, u "java/io/Serializable"), (0, .class_ 1), (0, u "java/lang/Object"), (0, .class_ 3)] 3

/-- java/io/Serializable -/
def k5 : Class := { plain "java/io/Serializable" (some 0) with
  accessFlags := 1537
  interfaces := #[]
  cf := some (fileOf pool5 2 #[] #[] 1537 4 #[] #[])
  fields := #[]
  methods := #[]
  instanceTypes := #[]
  staticTypes := #[]
  resolved := Array.replicate 8 none
  statics := none }

/-- the primitive byte -/
def k6 : Class := { plain "byte" none with kind := .primitive 'B', accessFlags := 0x411 }
/-- [B -/
def k7 : Class := { plain "[B" (some 0) with kind := .array 6 .byte, interfaces := #[4, 5], accessFlags := 1041 }

/-- the primitive int -/
def k8 : Class := { plain "int" none with kind := .primitive 'I', accessFlags := 0x411 }
/-- [I -/
def k9 : Class := { plain "[I" (some 0) with kind := .array 8 .int, interfaces := #[4, 5], accessFlags := 1041 }

def heap : Heap := #[]
def classes : Array Class := #[k0, k1, k2, k3, k4, k5, k6, k7, k8, k9]
def interned : List (Array UInt16 × Addr) := []
def slotsUsed : Nat := 0
def theMethod : MethodId := ⟨1, 3⟩
def args0 : Array Value := #[.long 5]
def aboutOver (below : List Frame) : State where
  vm := { classes := classes, interned := interned.toArray }
  heap := heap
  slotsUsed := slotsUsed
  threads := #[{ frames := .invoking theMethod args0 :: below }]
def below0 : List Frame := [.native { method := ⟨0, 0⟩, args := #[] }]
def about1 : State := aboutOver below0
def p0 : Program := .bare "" "" ""
def e0 : Env := launch0.env 0 0 0
theorem w_frames : about1.frames = Frame.invoking theMethod args0 :: below0 := rfl
set_option maxRecDepth 65536 in
theorem w_args : argsFit about1.vm theMethod args0 = true := by decide +kernel
set_option maxRecDepth 65536 in
theorem w_heap : heapFits about1 = true := by decide +kernel
set_option maxRecDepth 65536 in
theorem w_runnable : about1.curStatus? = some .runnable := by decide +kernel
set_option maxRecDepth 65536 in
theorem w_alone : about1.alone = true := by decide +kernel
set_option maxRecDepth 65536 in
theorem w_named : about1.methodNamed? x = some theMethod := by decide +kernel
set_option maxRecDepth 65536 in
theorem w_hears : about1.hears theMethod below0 = true := by decide +kernel
set_option maxRecDepth 65536 in
theorem w_ripe : about1.ripe theMethod args0 below0 = true := by decide +kernel
theorem w_running : about1.status = .running := rfl
set_option maxRecDepth 65536 in
theorem w_room : about1.hasRoom e0.platform room_1 = true :=
  launch0.hasRoom_least _ room_1 (by decide +kernel) (by decide +kernel) (by decide +kernel) (by decide +kernel) (by decide +kernel) (by decide +kernel)
theorem allAtoms_all (ts : List Jvm.Cond) (a : Array Jvm.Value) (st : Jvm.State) : (allAtoms ts).before a st = ts.all (fun c => c.before a st) := by
  induction ts with
  | nil => rfl
  | cons c t ih =>
    show (Jvm.Cond.and c (allAtoms t)).before a st = _
    rw [Jvm.Cond.before_and, ih, List.all_cons]
def words1 : List Jvm.Cond := Jvm.Cond.code x code maxLocals ret :: tables_1
/-- a 'code' word, met by the world's own term for the bytes: nothing is compared byte by byte -/
theorem code_word {y : MethodName} {bytes : ByteArray} {mx : Nat} {rt : Option FieldType} {a : Array Value} {s : State} {m : MethodId} {meth : Method} {c : Code} (h1 : s.methodNamed? y = some m) (h2 : s.vm.method? m = some meth) (h3 : meth.code = some c) (h4 : c.code = bytes)
    (h5 : (c.maxLocals == mx && c.exceptionTable.isEmpty && decide (c.maxStack ≤ mostOperands) && decide (meth.sig.returnType = rt) && !meth.locks && decide (parseMethodDescriptor y.desc = some meth.sig)) = true) : (Jvm.Cond.code y bytes mx rt).before a s = true := by
  simp only [Bool.and_eq_true, beq_iff_eq, Bool.not_eq_true', decide_eq_true_eq] at h5
  obtain ⟨⟨⟨⟨⟨g1, g2⟩, g3⟩, g4⟩, g5⟩, g6⟩ := h5
  simp [Cond.before, Cond.holds, Cond.value, h1, h2, h3, h4, g1, g2, g3, g4, g5, g6]
def isCode : Jvm.Cond → Bool
  | .code _ _ _ _ => true
  | _ => false
theorem all_split {L : List Jvm.Cond} {P : Jvm.Cond → Bool} (h1 : L.all (fun c => isCode c || P c) = true) (h2 : ∀ c ∈ L.filter isCode, P c = true) : L.all P = true := by
  refine List.all_eq_true.mpr fun c hc => ?_
  have h := List.all_eq_true.mp h1 c hc
  rcases Bool.eq_false_or_eq_true (isCode c) with hi | hi
  · exact h2 c (List.mem_filter.mpr ⟨hc, hi⟩)
  · simpa [hi] using h
set_option maxRecDepth 65536 in
theorem w_c0 : (Jvm.Cond.code x code maxLocals ret).before args0 about1 = true := code_word (m := ⟨1, 3⟩) (meth := k1m3) (c := k1c3) (by decide +kernel) rfl rfl rfl (by decide +kernel)
set_option maxRecDepth 65536 in
theorem w_c1 : (Jvm.Cond.code ({ cls := "reelwright/hash/Xxh3CoreAvalanche64PinLaw", name := "inverse", desc := "(J)J" } : Jvm.MethodName) method_2_code (4 : Nat) (Option.some Jvm.ClassFile.FieldType.long)).before args0 about1 = true := code_word (m := ⟨1, 1⟩) (meth := k1m1) (c := k1c1) (by decide +kernel) rfl rfl rfl (by decide +kernel)
set_option maxRecDepth 65536 in
theorem w_c2 : (Jvm.Cond.code ({ cls := "reelwright/hash/Xxh3Core", name := "avalanche64", desc := "(J)J" } : Jvm.MethodName) prog_17_method_19_code (4 : Nat) (Option.some Jvm.ClassFile.FieldType.long)).before args0 about1 = true := code_word (m := ⟨3, 1⟩) (meth := k3m1) (c := k3c1) (by decide +kernel) rfl rfl rfl (by decide +kernel)
set_option maxRecDepth 65536 in
theorem w_c3 : (Jvm.Cond.code ({ cls := "reelwright/hash/Xxh3CoreAvalanche64PinLaw", name := "unmix", desc := "(J)J" } : Jvm.MethodName) method_3_code (10 : Nat) (Option.some Jvm.ClassFile.FieldType.long)).before args0 about1 = true := code_word (m := ⟨1, 2⟩) (meth := k1m2) (c := k1c2) (by decide +kernel) rfl rfl rfl (by decide +kernel)
def codes1 : List Jvm.Cond := [Jvm.Cond.code x code maxLocals ret, Jvm.Cond.code ({ cls := "reelwright/hash/Xxh3CoreAvalanche64PinLaw", name := "inverse", desc := "(J)J" } : Jvm.MethodName) method_2_code (4 : Nat) (Option.some Jvm.ClassFile.FieldType.long), Jvm.Cond.code ({ cls := "reelwright/hash/Xxh3Core", name := "avalanche64", desc := "(J)J" } : Jvm.MethodName) prog_17_method_19_code (4 : Nat) (Option.some Jvm.ClassFile.FieldType.long), Jvm.Cond.code ({ cls := "reelwright/hash/Xxh3CoreAvalanche64PinLaw", name := "unmix", desc := "(J)J" } : Jvm.MethodName) method_3_code (10 : Nat) (Option.some Jvm.ClassFile.FieldType.long)]
set_option maxRecDepth 65536 in
theorem codes_eq : words1.filter isCode = codes1 := rfl
theorem w_codes : ∀ c ∈ words1.filter isCode, c.before args0 about1 = true := by
  rw [codes_eq]
  intro c hc
  simp only [codes1, List.mem_cons, List.not_mem_nil, or_false] at hc
  rcases hc with rfl | rfl | rfl | rfl
  · exact w_c0
  · exact w_c1
  · exact w_c2
  · exact w_c3
set_option maxRecDepth 65536 in
theorem w_t1 : words1.all (fun c => isCode c || c.before args0 about1) = true := by decide +kernel
theorem w_tables : (allAtoms (Jvm.Cond.code x code maxLocals ret :: tables_1)).before args0 about1 = true := by
  rw [allAtoms_all]
  show words1.all (fun c => c.before args0 about1) = true
  refine all_split ?_ w_codes
  rw [w_t1]
set_option maxRecDepth 65536 in
theorem w_case : (Jvm.Cond.and given_1 narrow_1).before args0 about1 = true := by decide +kernel
theorem w_applies : (headSpec (Jvm.Cond.code x code maxLocals ret :: tables_1) room_1).applies x e0.platform about1 = true :=
  (Spec.applies_iff w_frames).mpr ⟨w_running, w_runnable, w_alone, w_named, w_hears, w_ripe, w_room, w_tables⟩
theorem atStart : AtStart classFile x code maxLocals ret World_1 tables_1 room_1 Calls_1 rest_1 Pre_1 launch0 p0 e0 about1 theMethod args0 below0 :=
  ⟨lists_1, trivial, launch0.admits_env _ _ _, launch0.least_env, fairChoices_fair.cas, fairChoices_fair.clock, w_frames, w_args, w_heap, w_applies, trivial, trivial, w_case⟩
end start1
theorem witness_1 : WitnessClaimed_1 := ⟨start1.p0, start1.e0, start1.about1, start1.theMethod, start1.args0, start1.below0, start1.atStart⟩
end Jvm.Pilot.@@N@@
