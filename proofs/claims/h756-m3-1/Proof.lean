import JvmDerived
import JvmDerived.Pilot.@@N@@Statement
import JvmDerived.Pilot.@@N@@Code
set_option linter.unusedVariables false
set_option linter.unusedSimpArgs false
namespace Jvm.Pilot.@@N@@
open Jvm Jvm.ClassFile Sem Op Lib Jvm.Free Jvm.Stand Jvm.LawKit Jvm.RoadKit Bundle Jvm.Pilot.@@N@@.Jvm.D
/-! OWN PRELUDE: a walk in continuation form: 'Goes .. U': from U on the body comes to its return, with Q -/
section OwnPrelude
variable {p : Program} {l : Launch} {e : Env} {R : Room} {s : State} {m : MethodId} {args : Array Value} {below : List Frame} {meth : Method} {c : Code} {T U U' : State} {locs : List Loc} {cells slots ce sl : Nat} {Q : Option Value → Heap → List Loc → Prop}
def Goes (p : Program) (e : Env) (s : State) (below : List Frame) (Q : Option Value → Heap → List Loc → Prop) (ce sl : Nat) (U : State) : Prop :=
  ∃ t o, Steps p.tables e below U t ∧ t.status = .running ∧ Ended t below o ∧ ∃ v L, o = .returned v ∧ Q v t.heap L ∧ FrameEnd s o t L ce sl
theorem Goes.st (h : ∀ t, Steps p.tables e below U' t → Steps p.tables e below U t) (k : Goes p e s below Q ce sl U') : Goes p e s below Q ce sl U := by
  obtain ⟨t, o, h1, r⟩ := k
  exact ⟨t, o, h t h1, r⟩
theorem Goes.tr (h : Steps p.tables e below U U') (k : Goes p e s below Q ce sl U') : Goes p e s below Q ce sl U := by
  obtain ⟨t, o, h1, r⟩ := k
  exact ⟨t, o, h.trans h1, r⟩
theorem Goes.out (X : Stand p l e R s m args below meth c T locs cells slots) (hlocks : meth.locks = false) {v : Option Value} (hv : meth.sig.returnType = none → v = none) (hc : cells ≤ ce) (hs : slots ≤ sl) (hq : Q v T.heap locs)
    (k : ∀ fs, (∀ (f : JFrame) (acts : List Action), f.method = m → f.locked = none → f.entered = [] → (doReturn e (T.setTop f) acts v).1 = T.setFrames fs) → Steps p.tables e below U (T.setFrames fs)) : Goes p e s below Q ce sl U := by
  obtain ⟨fs, hr, hrun, hended, hW, hsame⟩ := X.leave (v := v) hv hlocks
  exact ⟨_, _, k fs hr, hrun, hended, _, _, rfl, hq, ⟨_, rfl⟩, hW, hsame.mono hc hs⟩
theorem Goes.retI (X : Stand p l e R s m args below meth c T locs cells slots) (hx : p.tables.exec = Jvm.exec) (hlocks : meth.locks = false) {pc : Nat} {Ls : Array Slot} {z : Int32} {rest : List Value} (hret : meth.sig.returnType = some .int) (hd : decode c.code pc = .ok (.ireturn, 1))
    (hc : cells ≤ ce) (hs : slots ≤ sl) (hq : Q (some (.int z)) T.heap locs) : Goes p e s below Q ce sl (T.setTop (mkF m pc Ls (.int z :: rest))) :=
  Goes.out X hlocks (fun h => by rw [hret] at h; cases h) hc hs hq fun fs hl => retOut X hx hret rfl (Or.inl ⟨rfl, Or.inl rfl, _, rfl⟩) hd hl
theorem Goes.retZ (X : Stand p l e R s m args below meth c T locs cells slots) (hx : p.tables.exec = Jvm.exec) (hlocks : meth.locks = false) {pc : Nat} {Ls : Array Slot} {z : Int32} {rest : List Value} (hret : meth.sig.returnType = some .boolean) (hd : decode c.code pc = .ok (.ireturn, 1))
    (hz : z &&& 1 = z) (hc : cells ≤ ce) (hs : slots ≤ sl) (hq : Q (some (.int z)) T.heap locs) : Goes p e s below Q ce sl (T.setTop (mkF m pc Ls (.int z :: rest))) :=
  Goes.out X hlocks (fun h => by rw [hret] at h; cases h) hc hs hq fun fs hl => retOut X hx hret (by show Value.int (z &&& 1) = _; rw [hz]) (Or.inl ⟨rfl, Or.inr (Or.inl rfl), _, rfl⟩) hd hl
theorem Goes.retJ (X : Stand p l e R s m args below meth c T locs cells slots) (hx : p.tables.exec = Jvm.exec) (hlocks : meth.locks = false) {pc : Nat} {Ls : Array Slot} {z : Int64} {rest : List Value} (hret : meth.sig.returnType = some .long) (hd : decode c.code pc = .ok (.lreturn, 1))
    (hc : cells ≤ ce) (hs : slots ≤ sl) (hq : Q (some (.long z)) T.heap locs) : Goes p e s below Q ce sl (T.setTop (mkF m pc Ls (.long z :: rest))) :=
  Goes.out X hlocks (fun h => by rw [hret] at h; cases h) hc hs hq fun fs hl => retOut X hx hret rfl (Or.inr (Or.inl ⟨rfl, rfl, _, rfl⟩)) hd hl
theorem Goes.retA (X : Stand p l e R s m args below meth c T locs cells slots) (hx : p.tables.exec = Jvm.exec) (hlocks : meth.locks = false) {pc : Nat} {Ls : Array Slot} {w : Value} {t : FieldType} {rest : List Value} (hret : meth.sig.returnType = some t) (hd : decode c.code pc = .ok (.areturn, 1))
    (ht : t.isReference = true) (hw : w.isRef = true) (hn : narrow t w = w) (hc : cells ≤ ce) (hs : slots ≤ sl) (hq : Q (some w) T.heap locs) : Goes p e s below Q ce sl (T.setTop (mkF m pc Ls (w :: rest))) :=
  Goes.out X hlocks (fun h => by rw [hret] at h; cases h) hc hs hq fun fs hl => retOut X hx hret hn (Or.inr (Or.inr (Or.inr (Or.inr ⟨rfl, ht, hw⟩)))) hd hl
theorem Goes.retV (X : Stand p l e R s m args below meth c T locs cells slots) (hx : p.tables.exec = Jvm.exec) (hlocks : meth.locks = false) {pc : Nat} {Ls : Array Slot} (hret : meth.sig.returnType = none) (hd : decode c.code pc = .ok (.return_, 1))
    (hc : cells ≤ ce) (hs : slots ≤ sl) (hq : Q none T.heap locs) : Goes p e s below Q ce sl (T.setTop (mkF m pc Ls [])) :=
  Goes.out X hlocks (fun _ => rfl) hc hs hq fun fs hl => X.returnOut hx hret hd hl
/-- a boolean as the machine has it -/
def b2i (b : Bool) : Int32 := if b then 1 else 0
theorem b2i_one (b : Bool) : b2i b &&& 1 = b2i b := by cases b <;> rfl
theorem b2i_t {b : Bool} (h : ¬ b2i b = 0) : b = true := by cases b; exact absurd rfl h; rfl
theorem b2i_f {b : Bool} (h : b2i b = 0) : b = false := by cases b; rfl; exact absurd h (by decide)
theorem Exa_ns {Z : State} {h : Heap} {a : Addr} {C : String} (E : Exa Z h a C) : ∀ cell : Cell, h[a]? = some cell → cell.vm.isStatics = false := fun cell hc => by
  obtain ⟨c1, _, h1, -, -, h4, -⟩ := E
  cases h1.symm.trans hc
  exact h4
theorem Sta_keep {Z : State} {h h' : Heap} {C n d : String} {v : Value} {ws : List Addr} (F : Sta Z h C n d v) (K : Keep h h' ws) (q : ∀ x ∈ ws, ∀ cell : Cell, h[x]? = some cell → cell.vm.isStatics = false) : Sta Z h' C n d v := by
  obtain ⟨cf, i, k, f, st, cell, h1, h2, h3, h4, h5, h6, h7⟩ := F
  exact ⟨cf, i, k, f, st, cell, h1, h2, h3, h4, K.2.1 _ _ h5 (fun y => by have := q _ y _ h5; rw [h6] at this; cases this), h6, h7⟩
theorem own_selp {u : State} {as : Array Value} {y : MethodName} {n : Nat} (hins : (Cond.instantiable y.cls n).before as u = true) (hpriv : u.PrivateAt y) (hinst : (Cond.instanceMethod y).before as u = true) (hy : y.cls ≠ "java/lang/invoke/MethodHandle" ∧ y.cls ≠ "java/lang/invoke/VarHandle") : (Cond.selects y.cls y y).before as u = true := by
  obtain ⟨c, k, hc, hk, -, hniab, -, -⟩ := Cond.instantiable_spec hins
  exact selects_self_of_private hc hk (Bool.or_eq_false_iff.mp hniab).1 hpriv hinst hy
end OwnPrelude

theorem d2_0 : decode jdk_29_method_45_code 0 = .ok (.lload_n 0, 1) := by decide +kernel
theorem d2_1 : decode jdk_29_method_45_code 1 = .ok (.bipush 32, 2) := by decide +kernel
theorem d2_3 : decode jdk_29_method_45_code 3 = .ok (.lshr, 1) := by decide +kernel
theorem d2_4 : decode jdk_29_method_45_code 4 = .ok (.lstore 4, 2) := by decide +kernel
theorem d2_6 : decode jdk_29_method_45_code 6 = .ok (.lload_n 0, 1) := by decide +kernel
theorem d2_7 : decode jdk_29_method_45_code 7 = .ok (.ldc2_w 138, 3) := by decide +kernel
theorem d2_10 : decode jdk_29_method_45_code 10 = .ok (.land, 1) := by decide +kernel
theorem d2_11 : decode jdk_29_method_45_code 11 = .ok (.lstore 6, 2) := by decide +kernel
theorem d2_13 : decode jdk_29_method_45_code 13 = .ok (.lload_n 2, 1) := by decide +kernel
theorem d2_14 : decode jdk_29_method_45_code 14 = .ok (.bipush 32, 2) := by decide +kernel
theorem d2_16 : decode jdk_29_method_45_code 16 = .ok (.lshr, 1) := by decide +kernel
theorem d2_17 : decode jdk_29_method_45_code 17 = .ok (.lstore 8, 2) := by decide +kernel
theorem d2_19 : decode jdk_29_method_45_code 19 = .ok (.lload_n 2, 1) := by decide +kernel
theorem d2_20 : decode jdk_29_method_45_code 20 = .ok (.ldc2_w 138, 3) := by decide +kernel
theorem d2_23 : decode jdk_29_method_45_code 23 = .ok (.land, 1) := by decide +kernel
theorem d2_24 : decode jdk_29_method_45_code 24 = .ok (.lstore 10, 2) := by decide +kernel
theorem d2_26 : decode jdk_29_method_45_code 26 = .ok (.lload 6, 2) := by decide +kernel
theorem d2_28 : decode jdk_29_method_45_code 28 = .ok (.lload 10, 2) := by decide +kernel
theorem d2_30 : decode jdk_29_method_45_code 30 = .ok (.lmul, 1) := by decide +kernel
theorem d2_31 : decode jdk_29_method_45_code 31 = .ok (.lstore 12, 2) := by decide +kernel
theorem d2_33 : decode jdk_29_method_45_code 33 = .ok (.lload 4, 2) := by decide +kernel
theorem d2_35 : decode jdk_29_method_45_code 35 = .ok (.lload 10, 2) := by decide +kernel
theorem d2_37 : decode jdk_29_method_45_code 37 = .ok (.lmul, 1) := by decide +kernel
theorem d2_38 : decode jdk_29_method_45_code 38 = .ok (.lload 12, 2) := by decide +kernel
theorem d2_40 : decode jdk_29_method_45_code 40 = .ok (.bipush 32, 2) := by decide +kernel
theorem d2_42 : decode jdk_29_method_45_code 42 = .ok (.lushr, 1) := by decide +kernel
theorem d2_43 : decode jdk_29_method_45_code 43 = .ok (.ladd, 1) := by decide +kernel
theorem d2_44 : decode jdk_29_method_45_code 44 = .ok (.lstore 14, 2) := by decide +kernel
theorem d2_46 : decode jdk_29_method_45_code 46 = .ok (.lload 14, 2) := by decide +kernel
theorem d2_48 : decode jdk_29_method_45_code 48 = .ok (.ldc2_w 138, 3) := by decide +kernel
theorem d2_51 : decode jdk_29_method_45_code 51 = .ok (.land, 1) := by decide +kernel
theorem d2_52 : decode jdk_29_method_45_code 52 = .ok (.lstore 16, 2) := by decide +kernel
theorem d2_54 : decode jdk_29_method_45_code 54 = .ok (.lload 14, 2) := by decide +kernel
theorem d2_56 : decode jdk_29_method_45_code 56 = .ok (.bipush 32, 2) := by decide +kernel
theorem d2_58 : decode jdk_29_method_45_code 58 = .ok (.lshr, 1) := by decide +kernel
theorem d2_59 : decode jdk_29_method_45_code 59 = .ok (.lstore 18, 2) := by decide +kernel
theorem d2_61 : decode jdk_29_method_45_code 61 = .ok (.lload 16, 2) := by decide +kernel
theorem d2_63 : decode jdk_29_method_45_code 63 = .ok (.lload 6, 2) := by decide +kernel
theorem d2_65 : decode jdk_29_method_45_code 65 = .ok (.lload 8, 2) := by decide +kernel
theorem d2_67 : decode jdk_29_method_45_code 67 = .ok (.lmul, 1) := by decide +kernel
theorem d2_68 : decode jdk_29_method_45_code 68 = .ok (.ladd, 1) := by decide +kernel
theorem d2_69 : decode jdk_29_method_45_code 69 = .ok (.lstore 16, 2) := by decide +kernel
theorem d2_71 : decode jdk_29_method_45_code 71 = .ok (.lload 4, 2) := by decide +kernel
theorem d2_73 : decode jdk_29_method_45_code 73 = .ok (.lload 8, 2) := by decide +kernel
theorem d2_75 : decode jdk_29_method_45_code 75 = .ok (.lmul, 1) := by decide +kernel
theorem d2_76 : decode jdk_29_method_45_code 76 = .ok (.lload 18, 2) := by decide +kernel
theorem d2_78 : decode jdk_29_method_45_code 78 = .ok (.ladd, 1) := by decide +kernel
theorem d2_79 : decode jdk_29_method_45_code 79 = .ok (.lload 16, 2) := by decide +kernel
theorem d2_81 : decode jdk_29_method_45_code 81 = .ok (.bipush 32, 2) := by decide +kernel
theorem d2_83 : decode jdk_29_method_45_code 83 = .ok (.lshr, 1) := by decide +kernel
theorem d2_84 : decode jdk_29_method_45_code 84 = .ok (.ladd, 1) := by decide +kernel
theorem d2_85 : decode jdk_29_method_45_code 85 = .ok (.lreturn, 1) := by decide +kernel
theorem ef_rm2 (m : MethodId) (q1 : Int64) (q2 : Int64) : entryFrame m #[(.long q1), (.long q2)] 20 = mkF m 0 #[.val (.long q1), .second, .val (.long q2), .second, .unset, .unset, .unset, .unset, .unset, .unset, .unset, .unset, .unset, .unset, .unset, .unset, .unset, .unset, .unset, .unset] [] := by first | (simp [entryFrame, mkF, argsToLocals, Value.category]; done) | rfl
def fn2 (q1 : Int64) (q2 : Int64) : Int64 := (let v1 : Int64 := ((q1 &&& (4294967295 : Int64)) * (q2 &&& (4294967295 : Int64))); (let v2 : Int64 := (((q1 >>> ((32 : Int32) &&& 0x3f).toInt64) * (q2 &&& (4294967295 : Int64))) + ((v1.toUInt64 >>> ((32 : Int32) &&& 0x3f).toInt64.toUInt64).toInt64)); (let v3 : Int64 := ((v2 &&& (4294967295 : Int64)) + ((q1 &&& (4294967295 : Int64)) * (q2 >>> ((32 : Int32) &&& 0x3f).toInt64))); ((((q1 >>> ((32 : Int32) &&& 0x3f).toInt64) * (q2 >>> ((32 : Int32) &&& 0x3f).toInt64)) + (v2 >>> ((32 : Int32) &&& 0x3f).toInt64)) + (v3 >>> ((32 : Int32) &&& 0x3f).toInt64)))))
def Q2 (Z : State) (q1 : Int64) (q2 : Int64) (h0 : Heap) (n0 : Nat) (v : Option Value) (h : Heap) (L : List Loc) : Prop := v = some (.long (fn2 q1 q2)) ∧ Fr n0 L ∧ h = h0
set_option maxRecDepth 65536 in
set_option maxHeartbeats 40000000 in
theorem rm2 (l : Launch) (Z : State) (a0 : Array Value) (hw : ∀ d ∈ tables_1, d.before a0 Z = true) (ws : List Jvm.Cond) (q1 : Int64) (q2 : Int64) (h0 : Heap) (n0 : Nat) (Z0 : n0 ≤ h0.size) :
    MetFree l (⟨"java/lang/Math", "multiplyHigh", "(JJ)J"⟩ : MethodName) (head1 (Jvm.Cond.code (⟨"java/lang/Math", "multiplyHigh", "(JJ)J"⟩ : MethodName) jdk_29_method_45_code 20 (some .long) :: ws) ({ frames := 0, cells := 0, slots := 0, locals := 0 } : Room)) (fun a U => a = #[(.long q1), (.long q2)] ∧ Z.Warmed39 U.vm ∧ U.heap = h0) (fun _ _ _ _ _ => True) (fun _ U o U' => ∃ v L, o = .returned v ∧ Q2 Z q1 q2 h0 n0 v U'.heap L ∧ FrameEnd U o U' L ({ frames := 0, cells := 0, slots := 0, locals := 0 } : Room).cells ({ frames := 0, cells := 0, slots := 0, locals := 0 } : Room).slots) := by
  refine MetFree.of_bodySF (Jvm.Free.JP.mathPlain rfl (by decide +kernel)) hisR ?_
  intro p e s m args below meth c s₁ Bd hml0 hP hK
  obtain ⟨rfl, hZ, hh⟩ := hP
  have hx := Bd.exec
  have hby := Bd.bytes
  have hml : c.maxLocals = 20 := hml0
  have hown : s.vm.findClass "java/lang/Math" = some m.cls := findClass_of_methodNamed Bd.named
  have hnm := (name_of_methodNamed Bd.named Bd.method).1
  have X0 : Stand p l e ({ frames := 0, cells := 0, slots := 0, locals := 0 } : Room) s m #[(.long q1), (.long q2)] below meth c s₁ [] 0 0 := Stand.of_body Bd
  have e0 : s₁.heap = h0 := by rw [← hh, Bd.state]; rfl
  have N0 := Fr.nil n0
  show Goes p e s below (fun v h L => Q2 Z q1 q2 h0 n0 v h L) ({ frames := 0, cells := 0, slots := 0, locals := 0 } : Room).cells ({ frames := 0, cells := 0, slots := 0, locals := 0 } : Room).slots (s₁.setTop (entryFrame m #[(.long q1), (.long q2)] 20))
  refine Goes.st (U' := s₁.setTop (mkF m 0 #[.val (.long q1), .second, .val (.long q2), .second, .unset, .unset, .unset, .unset, .unset, .unset, .unset, .unset, .unset, .unset, .unset, .unset, .unset, .unset, .unset, .unset] [])) (fun t k => castTop (ef_rm2 m q1 q2) k) ?_
  refine Goes.st (U' := s₁.setTop (mkF m 1 #[.val (.long q1), .second, .val (.long q2), .second, .unset, .unset, .unset, .unset, .unset, .unset, .unset, .unset, .unset, .unset, .unset, .unset, .unset, .unset, .unset, .unset] [(.long q1)])) (fun t k => XS.lloadN X0.here hx rfl (hb hby d2_0) rfl k) ?_
  refine Goes.st (U' := s₁.setTop (mkF m 3 #[.val (.long q1), .second, .val (.long q2), .second, .unset, .unset, .unset, .unset, .unset, .unset, .unset, .unset, .unset, .unset, .unset, .unset, .unset, .unset, .unset, .unset] [(.int (32 : Int32)), (.long q1)])) (fun t k => XS.bipush X0.here hx rfl (hb hby d2_1) k) ?_
  refine Goes.st (U' := s₁.setTop (mkF m 4 #[.val (.long q1), .second, .val (.long q2), .second, .unset, .unset, .unset, .unset, .unset, .unset, .unset, .unset, .unset, .unset, .unset, .unset, .unset, .unset, .unset, .unset] [(.long (q1 >>> ((32 : Int32) &&& 0x3f).toInt64))])) (fun t k => XS.lshr X0.here hx rfl (hb hby d2_3) rfl k) ?_
  refine Goes.st (U' := s₁.setTop (mkF m 6 #[.val (.long q1), .second, .val (.long q2), .second, .val (.long (q1 >>> ((32 : Int32) &&& 0x3f).toInt64)), .second, .unset, .unset, .unset, .unset, .unset, .unset, .unset, .unset, .unset, .unset, .unset, .unset, .unset, .unset] [])) (fun t k => XS.lstore X0.here hx rfl (hb hby d2_4) rfl (l' := #[.val (.long q1), .second, .val (.long q2), .second, .val (.long (q1 >>> ((32 : Int32) &&& 0x3f).toInt64)), .second, .unset, .unset, .unset, .unset, .unset, .unset, .unset, .unset, .unset, .unset, .unset, .unset, .unset, .unset]) rfl k) ?_
  refine Goes.st (U' := s₁.setTop (mkF m 7 #[.val (.long q1), .second, .val (.long q2), .second, .val (.long (q1 >>> ((32 : Int32) &&& 0x3f).toInt64)), .second, .unset, .unset, .unset, .unset, .unset, .unset, .unset, .unset, .unset, .unset, .unset, .unset, .unset, .unset] [(.long q1)])) (fun t k => XS.lloadN X0.here hx rfl (hb hby d2_6) rfl k) ?_
  refine Goes.st (U' := s₁.setTop (mkF m 10 #[.val (.long q1), .second, .val (.long q2), .second, .val (.long (q1 >>> ((32 : Int32) &&& 0x3f).toInt64)), .second, .unset, .unset, .unset, .unset, .unset, .unset, .unset, .unset, .unset, .unset, .unset, .unset, .unset, .unset] [(.long (4294967295 : Int64)), (.long q1)])) (fun t k => X0.ldc2Long hx hown (mvT hZ (hw _ (List.mem_of_getElem? (i := 9) rfl))) (g := (mkF m 7 #[.val (.long q1), .second, .val (.long q2), .second, .val (.long (q1 >>> ((32 : Int32) &&& 0x3f).toInt64)), .second, .unset, .unset, .unset, .unset, .unset, .unset, .unset, .unset, .unset, .unset, .unset, .unset, .unset, .unset] [(.long q1)])) rfl (hb hby d2_7) t k) ?_
  refine Goes.st (U' := s₁.setTop (mkF m 11 #[.val (.long q1), .second, .val (.long q2), .second, .val (.long (q1 >>> ((32 : Int32) &&& 0x3f).toInt64)), .second, .unset, .unset, .unset, .unset, .unset, .unset, .unset, .unset, .unset, .unset, .unset, .unset, .unset, .unset] [(.long (q1 &&& (4294967295 : Int64)))])) (fun t k => XS.land X0.here hx rfl (hb hby d2_10) rfl k) ?_
  refine Goes.st (U' := s₁.setTop (mkF m 13 #[.val (.long q1), .second, .val (.long q2), .second, .val (.long (q1 >>> ((32 : Int32) &&& 0x3f).toInt64)), .second, .val (.long (q1 &&& (4294967295 : Int64))), .second, .unset, .unset, .unset, .unset, .unset, .unset, .unset, .unset, .unset, .unset, .unset, .unset] [])) (fun t k => XS.lstore X0.here hx rfl (hb hby d2_11) rfl (l' := #[.val (.long q1), .second, .val (.long q2), .second, .val (.long (q1 >>> ((32 : Int32) &&& 0x3f).toInt64)), .second, .val (.long (q1 &&& (4294967295 : Int64))), .second, .unset, .unset, .unset, .unset, .unset, .unset, .unset, .unset, .unset, .unset, .unset, .unset]) rfl k) ?_
  refine Goes.st (U' := s₁.setTop (mkF m 14 #[.val (.long q1), .second, .val (.long q2), .second, .val (.long (q1 >>> ((32 : Int32) &&& 0x3f).toInt64)), .second, .val (.long (q1 &&& (4294967295 : Int64))), .second, .unset, .unset, .unset, .unset, .unset, .unset, .unset, .unset, .unset, .unset, .unset, .unset] [(.long q2)])) (fun t k => XS.lloadN X0.here hx rfl (hb hby d2_13) rfl k) ?_
  refine Goes.st (U' := s₁.setTop (mkF m 16 #[.val (.long q1), .second, .val (.long q2), .second, .val (.long (q1 >>> ((32 : Int32) &&& 0x3f).toInt64)), .second, .val (.long (q1 &&& (4294967295 : Int64))), .second, .unset, .unset, .unset, .unset, .unset, .unset, .unset, .unset, .unset, .unset, .unset, .unset] [(.int (32 : Int32)), (.long q2)])) (fun t k => XS.bipush X0.here hx rfl (hb hby d2_14) k) ?_
  refine Goes.st (U' := s₁.setTop (mkF m 17 #[.val (.long q1), .second, .val (.long q2), .second, .val (.long (q1 >>> ((32 : Int32) &&& 0x3f).toInt64)), .second, .val (.long (q1 &&& (4294967295 : Int64))), .second, .unset, .unset, .unset, .unset, .unset, .unset, .unset, .unset, .unset, .unset, .unset, .unset] [(.long (q2 >>> ((32 : Int32) &&& 0x3f).toInt64))])) (fun t k => XS.lshr X0.here hx rfl (hb hby d2_16) rfl k) ?_
  refine Goes.st (U' := s₁.setTop (mkF m 19 #[.val (.long q1), .second, .val (.long q2), .second, .val (.long (q1 >>> ((32 : Int32) &&& 0x3f).toInt64)), .second, .val (.long (q1 &&& (4294967295 : Int64))), .second, .val (.long (q2 >>> ((32 : Int32) &&& 0x3f).toInt64)), .second, .unset, .unset, .unset, .unset, .unset, .unset, .unset, .unset, .unset, .unset] [])) (fun t k => XS.lstore X0.here hx rfl (hb hby d2_17) rfl (l' := #[.val (.long q1), .second, .val (.long q2), .second, .val (.long (q1 >>> ((32 : Int32) &&& 0x3f).toInt64)), .second, .val (.long (q1 &&& (4294967295 : Int64))), .second, .val (.long (q2 >>> ((32 : Int32) &&& 0x3f).toInt64)), .second, .unset, .unset, .unset, .unset, .unset, .unset, .unset, .unset, .unset, .unset]) rfl k) ?_
  refine Goes.st (U' := s₁.setTop (mkF m 20 #[.val (.long q1), .second, .val (.long q2), .second, .val (.long (q1 >>> ((32 : Int32) &&& 0x3f).toInt64)), .second, .val (.long (q1 &&& (4294967295 : Int64))), .second, .val (.long (q2 >>> ((32 : Int32) &&& 0x3f).toInt64)), .second, .unset, .unset, .unset, .unset, .unset, .unset, .unset, .unset, .unset, .unset] [(.long q2)])) (fun t k => XS.lloadN X0.here hx rfl (hb hby d2_19) rfl k) ?_
  refine Goes.st (U' := s₁.setTop (mkF m 23 #[.val (.long q1), .second, .val (.long q2), .second, .val (.long (q1 >>> ((32 : Int32) &&& 0x3f).toInt64)), .second, .val (.long (q1 &&& (4294967295 : Int64))), .second, .val (.long (q2 >>> ((32 : Int32) &&& 0x3f).toInt64)), .second, .unset, .unset, .unset, .unset, .unset, .unset, .unset, .unset, .unset, .unset] [(.long (4294967295 : Int64)), (.long q2)])) (fun t k => X0.ldc2Long hx hown (mvT hZ (hw _ (List.mem_of_getElem? (i := 9) rfl))) (g := (mkF m 20 #[.val (.long q1), .second, .val (.long q2), .second, .val (.long (q1 >>> ((32 : Int32) &&& 0x3f).toInt64)), .second, .val (.long (q1 &&& (4294967295 : Int64))), .second, .val (.long (q2 >>> ((32 : Int32) &&& 0x3f).toInt64)), .second, .unset, .unset, .unset, .unset, .unset, .unset, .unset, .unset, .unset, .unset] [(.long q2)])) rfl (hb hby d2_20) t k) ?_
  refine Goes.st (U' := s₁.setTop (mkF m 24 #[.val (.long q1), .second, .val (.long q2), .second, .val (.long (q1 >>> ((32 : Int32) &&& 0x3f).toInt64)), .second, .val (.long (q1 &&& (4294967295 : Int64))), .second, .val (.long (q2 >>> ((32 : Int32) &&& 0x3f).toInt64)), .second, .unset, .unset, .unset, .unset, .unset, .unset, .unset, .unset, .unset, .unset] [(.long (q2 &&& (4294967295 : Int64)))])) (fun t k => XS.land X0.here hx rfl (hb hby d2_23) rfl k) ?_
  refine Goes.st (U' := s₁.setTop (mkF m 26 #[.val (.long q1), .second, .val (.long q2), .second, .val (.long (q1 >>> ((32 : Int32) &&& 0x3f).toInt64)), .second, .val (.long (q1 &&& (4294967295 : Int64))), .second, .val (.long (q2 >>> ((32 : Int32) &&& 0x3f).toInt64)), .second, .val (.long (q2 &&& (4294967295 : Int64))), .second, .unset, .unset, .unset, .unset, .unset, .unset, .unset, .unset] [])) (fun t k => XS.lstore X0.here hx rfl (hb hby d2_24) rfl (l' := #[.val (.long q1), .second, .val (.long q2), .second, .val (.long (q1 >>> ((32 : Int32) &&& 0x3f).toInt64)), .second, .val (.long (q1 &&& (4294967295 : Int64))), .second, .val (.long (q2 >>> ((32 : Int32) &&& 0x3f).toInt64)), .second, .val (.long (q2 &&& (4294967295 : Int64))), .second, .unset, .unset, .unset, .unset, .unset, .unset, .unset, .unset]) rfl k) ?_
  refine Goes.st (U' := s₁.setTop (mkF m 28 #[.val (.long q1), .second, .val (.long q2), .second, .val (.long (q1 >>> ((32 : Int32) &&& 0x3f).toInt64)), .second, .val (.long (q1 &&& (4294967295 : Int64))), .second, .val (.long (q2 >>> ((32 : Int32) &&& 0x3f).toInt64)), .second, .val (.long (q2 &&& (4294967295 : Int64))), .second, .unset, .unset, .unset, .unset, .unset, .unset, .unset, .unset] [(.long (q1 &&& (4294967295 : Int64)))])) (fun t k => XS.lload X0.here hx rfl (hb hby d2_26) rfl k) ?_
  refine Goes.st (U' := s₁.setTop (mkF m 30 #[.val (.long q1), .second, .val (.long q2), .second, .val (.long (q1 >>> ((32 : Int32) &&& 0x3f).toInt64)), .second, .val (.long (q1 &&& (4294967295 : Int64))), .second, .val (.long (q2 >>> ((32 : Int32) &&& 0x3f).toInt64)), .second, .val (.long (q2 &&& (4294967295 : Int64))), .second, .unset, .unset, .unset, .unset, .unset, .unset, .unset, .unset] [(.long (q2 &&& (4294967295 : Int64))), (.long (q1 &&& (4294967295 : Int64)))])) (fun t k => XS.lload X0.here hx rfl (hb hby d2_28) rfl k) ?_
  refine Goes.st (U' := s₁.setTop (mkF m 31 #[.val (.long q1), .second, .val (.long q2), .second, .val (.long (q1 >>> ((32 : Int32) &&& 0x3f).toInt64)), .second, .val (.long (q1 &&& (4294967295 : Int64))), .second, .val (.long (q2 >>> ((32 : Int32) &&& 0x3f).toInt64)), .second, .val (.long (q2 &&& (4294967295 : Int64))), .second, .unset, .unset, .unset, .unset, .unset, .unset, .unset, .unset] [(.long ((q1 &&& (4294967295 : Int64)) * (q2 &&& (4294967295 : Int64))))])) (fun t k => XS.lmul X0.here hx rfl (hb hby d2_30) rfl k) ?_
  obtain ⟨v1, hv1⟩ : ∃ z : Int64, z = ((q1 &&& (4294967295 : Int64)) * (q2 &&& (4294967295 : Int64))) := ⟨_, rfl⟩
  refine Goes.st (U' := s₁.setTop (mkF m 33 #[.val (.long q1), .second, .val (.long q2), .second, .val (.long (q1 >>> ((32 : Int32) &&& 0x3f).toInt64)), .second, .val (.long (q1 &&& (4294967295 : Int64))), .second, .val (.long (q2 >>> ((32 : Int32) &&& 0x3f).toInt64)), .second, .val (.long (q2 &&& (4294967295 : Int64))), .second, .val (.long v1), .second, .unset, .unset, .unset, .unset, .unset, .unset] [])) (fun t k => (by subst hv1; exact XS.lstore X0.here hx rfl (hb hby d2_31) rfl (l' := #[.val (.long q1), .second, .val (.long q2), .second, .val (.long (q1 >>> ((32 : Int32) &&& 0x3f).toInt64)), .second, .val (.long (q1 &&& (4294967295 : Int64))), .second, .val (.long (q2 >>> ((32 : Int32) &&& 0x3f).toInt64)), .second, .val (.long (q2 &&& (4294967295 : Int64))), .second, .val (.long ((q1 &&& (4294967295 : Int64)) * (q2 &&& (4294967295 : Int64)))), .second, .unset, .unset, .unset, .unset, .unset, .unset]) rfl k)) ?_
  refine Goes.st (U' := s₁.setTop (mkF m 35 #[.val (.long q1), .second, .val (.long q2), .second, .val (.long (q1 >>> ((32 : Int32) &&& 0x3f).toInt64)), .second, .val (.long (q1 &&& (4294967295 : Int64))), .second, .val (.long (q2 >>> ((32 : Int32) &&& 0x3f).toInt64)), .second, .val (.long (q2 &&& (4294967295 : Int64))), .second, .val (.long v1), .second, .unset, .unset, .unset, .unset, .unset, .unset] [(.long (q1 >>> ((32 : Int32) &&& 0x3f).toInt64))])) (fun t k => XS.lload X0.here hx rfl (hb hby d2_33) rfl k) ?_
  refine Goes.st (U' := s₁.setTop (mkF m 37 #[.val (.long q1), .second, .val (.long q2), .second, .val (.long (q1 >>> ((32 : Int32) &&& 0x3f).toInt64)), .second, .val (.long (q1 &&& (4294967295 : Int64))), .second, .val (.long (q2 >>> ((32 : Int32) &&& 0x3f).toInt64)), .second, .val (.long (q2 &&& (4294967295 : Int64))), .second, .val (.long v1), .second, .unset, .unset, .unset, .unset, .unset, .unset] [(.long (q2 &&& (4294967295 : Int64))), (.long (q1 >>> ((32 : Int32) &&& 0x3f).toInt64))])) (fun t k => XS.lload X0.here hx rfl (hb hby d2_35) rfl k) ?_
  refine Goes.st (U' := s₁.setTop (mkF m 38 #[.val (.long q1), .second, .val (.long q2), .second, .val (.long (q1 >>> ((32 : Int32) &&& 0x3f).toInt64)), .second, .val (.long (q1 &&& (4294967295 : Int64))), .second, .val (.long (q2 >>> ((32 : Int32) &&& 0x3f).toInt64)), .second, .val (.long (q2 &&& (4294967295 : Int64))), .second, .val (.long v1), .second, .unset, .unset, .unset, .unset, .unset, .unset] [(.long ((q1 >>> ((32 : Int32) &&& 0x3f).toInt64) * (q2 &&& (4294967295 : Int64))))])) (fun t k => XS.lmul X0.here hx rfl (hb hby d2_37) rfl k) ?_
  refine Goes.st (U' := s₁.setTop (mkF m 40 #[.val (.long q1), .second, .val (.long q2), .second, .val (.long (q1 >>> ((32 : Int32) &&& 0x3f).toInt64)), .second, .val (.long (q1 &&& (4294967295 : Int64))), .second, .val (.long (q2 >>> ((32 : Int32) &&& 0x3f).toInt64)), .second, .val (.long (q2 &&& (4294967295 : Int64))), .second, .val (.long v1), .second, .unset, .unset, .unset, .unset, .unset, .unset] [(.long v1), (.long ((q1 >>> ((32 : Int32) &&& 0x3f).toInt64) * (q2 &&& (4294967295 : Int64))))])) (fun t k => XS.lload X0.here hx rfl (hb hby d2_38) rfl k) ?_
  refine Goes.st (U' := s₁.setTop (mkF m 42 #[.val (.long q1), .second, .val (.long q2), .second, .val (.long (q1 >>> ((32 : Int32) &&& 0x3f).toInt64)), .second, .val (.long (q1 &&& (4294967295 : Int64))), .second, .val (.long (q2 >>> ((32 : Int32) &&& 0x3f).toInt64)), .second, .val (.long (q2 &&& (4294967295 : Int64))), .second, .val (.long v1), .second, .unset, .unset, .unset, .unset, .unset, .unset] [(.int (32 : Int32)), (.long v1), (.long ((q1 >>> ((32 : Int32) &&& 0x3f).toInt64) * (q2 &&& (4294967295 : Int64))))])) (fun t k => XS.bipush X0.here hx rfl (hb hby d2_40) k) ?_
  refine Goes.st (U' := s₁.setTop (mkF m 43 #[.val (.long q1), .second, .val (.long q2), .second, .val (.long (q1 >>> ((32 : Int32) &&& 0x3f).toInt64)), .second, .val (.long (q1 &&& (4294967295 : Int64))), .second, .val (.long (q2 >>> ((32 : Int32) &&& 0x3f).toInt64)), .second, .val (.long (q2 &&& (4294967295 : Int64))), .second, .val (.long v1), .second, .unset, .unset, .unset, .unset, .unset, .unset] [(.long ((v1.toUInt64 >>> ((32 : Int32) &&& 0x3f).toInt64.toUInt64).toInt64)), (.long ((q1 >>> ((32 : Int32) &&& 0x3f).toInt64) * (q2 &&& (4294967295 : Int64))))])) (fun t k => XS.lushr X0.here hx rfl (hb hby d2_42) rfl k) ?_
  refine Goes.st (U' := s₁.setTop (mkF m 44 #[.val (.long q1), .second, .val (.long q2), .second, .val (.long (q1 >>> ((32 : Int32) &&& 0x3f).toInt64)), .second, .val (.long (q1 &&& (4294967295 : Int64))), .second, .val (.long (q2 >>> ((32 : Int32) &&& 0x3f).toInt64)), .second, .val (.long (q2 &&& (4294967295 : Int64))), .second, .val (.long v1), .second, .unset, .unset, .unset, .unset, .unset, .unset] [(.long (((q1 >>> ((32 : Int32) &&& 0x3f).toInt64) * (q2 &&& (4294967295 : Int64))) + ((v1.toUInt64 >>> ((32 : Int32) &&& 0x3f).toInt64.toUInt64).toInt64)))])) (fun t k => XS.ladd X0.here hx rfl (hb hby d2_43) rfl k) ?_
  obtain ⟨v2, hv2⟩ : ∃ z : Int64, z = (((q1 >>> ((32 : Int32) &&& 0x3f).toInt64) * (q2 &&& (4294967295 : Int64))) + ((v1.toUInt64 >>> ((32 : Int32) &&& 0x3f).toInt64.toUInt64).toInt64)) := ⟨_, rfl⟩
  refine Goes.st (U' := s₁.setTop (mkF m 46 #[.val (.long q1), .second, .val (.long q2), .second, .val (.long (q1 >>> ((32 : Int32) &&& 0x3f).toInt64)), .second, .val (.long (q1 &&& (4294967295 : Int64))), .second, .val (.long (q2 >>> ((32 : Int32) &&& 0x3f).toInt64)), .second, .val (.long (q2 &&& (4294967295 : Int64))), .second, .val (.long v1), .second, .val (.long v2), .second, .unset, .unset, .unset, .unset] [])) (fun t k => (by subst hv2; exact XS.lstore X0.here hx rfl (hb hby d2_44) rfl (l' := #[.val (.long q1), .second, .val (.long q2), .second, .val (.long (q1 >>> ((32 : Int32) &&& 0x3f).toInt64)), .second, .val (.long (q1 &&& (4294967295 : Int64))), .second, .val (.long (q2 >>> ((32 : Int32) &&& 0x3f).toInt64)), .second, .val (.long (q2 &&& (4294967295 : Int64))), .second, .val (.long v1), .second, .val (.long (((q1 >>> ((32 : Int32) &&& 0x3f).toInt64) * (q2 &&& (4294967295 : Int64))) + ((v1.toUInt64 >>> ((32 : Int32) &&& 0x3f).toInt64.toUInt64).toInt64))), .second, .unset, .unset, .unset, .unset]) rfl k)) ?_
  refine Goes.st (U' := s₁.setTop (mkF m 48 #[.val (.long q1), .second, .val (.long q2), .second, .val (.long (q1 >>> ((32 : Int32) &&& 0x3f).toInt64)), .second, .val (.long (q1 &&& (4294967295 : Int64))), .second, .val (.long (q2 >>> ((32 : Int32) &&& 0x3f).toInt64)), .second, .val (.long (q2 &&& (4294967295 : Int64))), .second, .val (.long v1), .second, .val (.long v2), .second, .unset, .unset, .unset, .unset] [(.long v2)])) (fun t k => XS.lload X0.here hx rfl (hb hby d2_46) rfl k) ?_
  refine Goes.st (U' := s₁.setTop (mkF m 51 #[.val (.long q1), .second, .val (.long q2), .second, .val (.long (q1 >>> ((32 : Int32) &&& 0x3f).toInt64)), .second, .val (.long (q1 &&& (4294967295 : Int64))), .second, .val (.long (q2 >>> ((32 : Int32) &&& 0x3f).toInt64)), .second, .val (.long (q2 &&& (4294967295 : Int64))), .second, .val (.long v1), .second, .val (.long v2), .second, .unset, .unset, .unset, .unset] [(.long (4294967295 : Int64)), (.long v2)])) (fun t k => X0.ldc2Long hx hown (mvT hZ (hw _ (List.mem_of_getElem? (i := 9) rfl))) (g := (mkF m 48 #[.val (.long q1), .second, .val (.long q2), .second, .val (.long (q1 >>> ((32 : Int32) &&& 0x3f).toInt64)), .second, .val (.long (q1 &&& (4294967295 : Int64))), .second, .val (.long (q2 >>> ((32 : Int32) &&& 0x3f).toInt64)), .second, .val (.long (q2 &&& (4294967295 : Int64))), .second, .val (.long v1), .second, .val (.long v2), .second, .unset, .unset, .unset, .unset] [(.long v2)])) rfl (hb hby d2_48) t k) ?_
  refine Goes.st (U' := s₁.setTop (mkF m 52 #[.val (.long q1), .second, .val (.long q2), .second, .val (.long (q1 >>> ((32 : Int32) &&& 0x3f).toInt64)), .second, .val (.long (q1 &&& (4294967295 : Int64))), .second, .val (.long (q2 >>> ((32 : Int32) &&& 0x3f).toInt64)), .second, .val (.long (q2 &&& (4294967295 : Int64))), .second, .val (.long v1), .second, .val (.long v2), .second, .unset, .unset, .unset, .unset] [(.long (v2 &&& (4294967295 : Int64)))])) (fun t k => XS.land X0.here hx rfl (hb hby d2_51) rfl k) ?_
  refine Goes.st (U' := s₁.setTop (mkF m 54 #[.val (.long q1), .second, .val (.long q2), .second, .val (.long (q1 >>> ((32 : Int32) &&& 0x3f).toInt64)), .second, .val (.long (q1 &&& (4294967295 : Int64))), .second, .val (.long (q2 >>> ((32 : Int32) &&& 0x3f).toInt64)), .second, .val (.long (q2 &&& (4294967295 : Int64))), .second, .val (.long v1), .second, .val (.long v2), .second, .val (.long (v2 &&& (4294967295 : Int64))), .second, .unset, .unset] [])) (fun t k => XS.lstore X0.here hx rfl (hb hby d2_52) rfl (l' := #[.val (.long q1), .second, .val (.long q2), .second, .val (.long (q1 >>> ((32 : Int32) &&& 0x3f).toInt64)), .second, .val (.long (q1 &&& (4294967295 : Int64))), .second, .val (.long (q2 >>> ((32 : Int32) &&& 0x3f).toInt64)), .second, .val (.long (q2 &&& (4294967295 : Int64))), .second, .val (.long v1), .second, .val (.long v2), .second, .val (.long (v2 &&& (4294967295 : Int64))), .second, .unset, .unset]) rfl k) ?_
  refine Goes.st (U' := s₁.setTop (mkF m 56 #[.val (.long q1), .second, .val (.long q2), .second, .val (.long (q1 >>> ((32 : Int32) &&& 0x3f).toInt64)), .second, .val (.long (q1 &&& (4294967295 : Int64))), .second, .val (.long (q2 >>> ((32 : Int32) &&& 0x3f).toInt64)), .second, .val (.long (q2 &&& (4294967295 : Int64))), .second, .val (.long v1), .second, .val (.long v2), .second, .val (.long (v2 &&& (4294967295 : Int64))), .second, .unset, .unset] [(.long v2)])) (fun t k => XS.lload X0.here hx rfl (hb hby d2_54) rfl k) ?_
  refine Goes.st (U' := s₁.setTop (mkF m 58 #[.val (.long q1), .second, .val (.long q2), .second, .val (.long (q1 >>> ((32 : Int32) &&& 0x3f).toInt64)), .second, .val (.long (q1 &&& (4294967295 : Int64))), .second, .val (.long (q2 >>> ((32 : Int32) &&& 0x3f).toInt64)), .second, .val (.long (q2 &&& (4294967295 : Int64))), .second, .val (.long v1), .second, .val (.long v2), .second, .val (.long (v2 &&& (4294967295 : Int64))), .second, .unset, .unset] [(.int (32 : Int32)), (.long v2)])) (fun t k => XS.bipush X0.here hx rfl (hb hby d2_56) k) ?_
  refine Goes.st (U' := s₁.setTop (mkF m 59 #[.val (.long q1), .second, .val (.long q2), .second, .val (.long (q1 >>> ((32 : Int32) &&& 0x3f).toInt64)), .second, .val (.long (q1 &&& (4294967295 : Int64))), .second, .val (.long (q2 >>> ((32 : Int32) &&& 0x3f).toInt64)), .second, .val (.long (q2 &&& (4294967295 : Int64))), .second, .val (.long v1), .second, .val (.long v2), .second, .val (.long (v2 &&& (4294967295 : Int64))), .second, .unset, .unset] [(.long (v2 >>> ((32 : Int32) &&& 0x3f).toInt64))])) (fun t k => XS.lshr X0.here hx rfl (hb hby d2_58) rfl k) ?_
  refine Goes.st (U' := s₁.setTop (mkF m 61 #[.val (.long q1), .second, .val (.long q2), .second, .val (.long (q1 >>> ((32 : Int32) &&& 0x3f).toInt64)), .second, .val (.long (q1 &&& (4294967295 : Int64))), .second, .val (.long (q2 >>> ((32 : Int32) &&& 0x3f).toInt64)), .second, .val (.long (q2 &&& (4294967295 : Int64))), .second, .val (.long v1), .second, .val (.long v2), .second, .val (.long (v2 &&& (4294967295 : Int64))), .second, .val (.long (v2 >>> ((32 : Int32) &&& 0x3f).toInt64)), .second] [])) (fun t k => XS.lstore X0.here hx rfl (hb hby d2_59) rfl (l' := #[.val (.long q1), .second, .val (.long q2), .second, .val (.long (q1 >>> ((32 : Int32) &&& 0x3f).toInt64)), .second, .val (.long (q1 &&& (4294967295 : Int64))), .second, .val (.long (q2 >>> ((32 : Int32) &&& 0x3f).toInt64)), .second, .val (.long (q2 &&& (4294967295 : Int64))), .second, .val (.long v1), .second, .val (.long v2), .second, .val (.long (v2 &&& (4294967295 : Int64))), .second, .val (.long (v2 >>> ((32 : Int32) &&& 0x3f).toInt64)), .second]) rfl k) ?_
  refine Goes.st (U' := s₁.setTop (mkF m 63 #[.val (.long q1), .second, .val (.long q2), .second, .val (.long (q1 >>> ((32 : Int32) &&& 0x3f).toInt64)), .second, .val (.long (q1 &&& (4294967295 : Int64))), .second, .val (.long (q2 >>> ((32 : Int32) &&& 0x3f).toInt64)), .second, .val (.long (q2 &&& (4294967295 : Int64))), .second, .val (.long v1), .second, .val (.long v2), .second, .val (.long (v2 &&& (4294967295 : Int64))), .second, .val (.long (v2 >>> ((32 : Int32) &&& 0x3f).toInt64)), .second] [(.long (v2 &&& (4294967295 : Int64)))])) (fun t k => XS.lload X0.here hx rfl (hb hby d2_61) rfl k) ?_
  refine Goes.st (U' := s₁.setTop (mkF m 65 #[.val (.long q1), .second, .val (.long q2), .second, .val (.long (q1 >>> ((32 : Int32) &&& 0x3f).toInt64)), .second, .val (.long (q1 &&& (4294967295 : Int64))), .second, .val (.long (q2 >>> ((32 : Int32) &&& 0x3f).toInt64)), .second, .val (.long (q2 &&& (4294967295 : Int64))), .second, .val (.long v1), .second, .val (.long v2), .second, .val (.long (v2 &&& (4294967295 : Int64))), .second, .val (.long (v2 >>> ((32 : Int32) &&& 0x3f).toInt64)), .second] [(.long (q1 &&& (4294967295 : Int64))), (.long (v2 &&& (4294967295 : Int64)))])) (fun t k => XS.lload X0.here hx rfl (hb hby d2_63) rfl k) ?_
  refine Goes.st (U' := s₁.setTop (mkF m 67 #[.val (.long q1), .second, .val (.long q2), .second, .val (.long (q1 >>> ((32 : Int32) &&& 0x3f).toInt64)), .second, .val (.long (q1 &&& (4294967295 : Int64))), .second, .val (.long (q2 >>> ((32 : Int32) &&& 0x3f).toInt64)), .second, .val (.long (q2 &&& (4294967295 : Int64))), .second, .val (.long v1), .second, .val (.long v2), .second, .val (.long (v2 &&& (4294967295 : Int64))), .second, .val (.long (v2 >>> ((32 : Int32) &&& 0x3f).toInt64)), .second] [(.long (q2 >>> ((32 : Int32) &&& 0x3f).toInt64)), (.long (q1 &&& (4294967295 : Int64))), (.long (v2 &&& (4294967295 : Int64)))])) (fun t k => XS.lload X0.here hx rfl (hb hby d2_65) rfl k) ?_
  refine Goes.st (U' := s₁.setTop (mkF m 68 #[.val (.long q1), .second, .val (.long q2), .second, .val (.long (q1 >>> ((32 : Int32) &&& 0x3f).toInt64)), .second, .val (.long (q1 &&& (4294967295 : Int64))), .second, .val (.long (q2 >>> ((32 : Int32) &&& 0x3f).toInt64)), .second, .val (.long (q2 &&& (4294967295 : Int64))), .second, .val (.long v1), .second, .val (.long v2), .second, .val (.long (v2 &&& (4294967295 : Int64))), .second, .val (.long (v2 >>> ((32 : Int32) &&& 0x3f).toInt64)), .second] [(.long ((q1 &&& (4294967295 : Int64)) * (q2 >>> ((32 : Int32) &&& 0x3f).toInt64))), (.long (v2 &&& (4294967295 : Int64)))])) (fun t k => XS.lmul X0.here hx rfl (hb hby d2_67) rfl k) ?_
  refine Goes.st (U' := s₁.setTop (mkF m 69 #[.val (.long q1), .second, .val (.long q2), .second, .val (.long (q1 >>> ((32 : Int32) &&& 0x3f).toInt64)), .second, .val (.long (q1 &&& (4294967295 : Int64))), .second, .val (.long (q2 >>> ((32 : Int32) &&& 0x3f).toInt64)), .second, .val (.long (q2 &&& (4294967295 : Int64))), .second, .val (.long v1), .second, .val (.long v2), .second, .val (.long (v2 &&& (4294967295 : Int64))), .second, .val (.long (v2 >>> ((32 : Int32) &&& 0x3f).toInt64)), .second] [(.long ((v2 &&& (4294967295 : Int64)) + ((q1 &&& (4294967295 : Int64)) * (q2 >>> ((32 : Int32) &&& 0x3f).toInt64))))])) (fun t k => XS.ladd X0.here hx rfl (hb hby d2_68) rfl k) ?_
  obtain ⟨v3, hv3⟩ : ∃ z : Int64, z = ((v2 &&& (4294967295 : Int64)) + ((q1 &&& (4294967295 : Int64)) * (q2 >>> ((32 : Int32) &&& 0x3f).toInt64))) := ⟨_, rfl⟩
  refine Goes.st (U' := s₁.setTop (mkF m 71 #[.val (.long q1), .second, .val (.long q2), .second, .val (.long (q1 >>> ((32 : Int32) &&& 0x3f).toInt64)), .second, .val (.long (q1 &&& (4294967295 : Int64))), .second, .val (.long (q2 >>> ((32 : Int32) &&& 0x3f).toInt64)), .second, .val (.long (q2 &&& (4294967295 : Int64))), .second, .val (.long v1), .second, .val (.long v2), .second, .val (.long v3), .second, .val (.long (v2 >>> ((32 : Int32) &&& 0x3f).toInt64)), .second] [])) (fun t k => (by subst hv3; exact XS.lstore X0.here hx rfl (hb hby d2_69) rfl (l' := #[.val (.long q1), .second, .val (.long q2), .second, .val (.long (q1 >>> ((32 : Int32) &&& 0x3f).toInt64)), .second, .val (.long (q1 &&& (4294967295 : Int64))), .second, .val (.long (q2 >>> ((32 : Int32) &&& 0x3f).toInt64)), .second, .val (.long (q2 &&& (4294967295 : Int64))), .second, .val (.long v1), .second, .val (.long v2), .second, .val (.long ((v2 &&& (4294967295 : Int64)) + ((q1 &&& (4294967295 : Int64)) * (q2 >>> ((32 : Int32) &&& 0x3f).toInt64)))), .second, .val (.long (v2 >>> ((32 : Int32) &&& 0x3f).toInt64)), .second]) rfl k)) ?_
  refine Goes.st (U' := s₁.setTop (mkF m 73 #[.val (.long q1), .second, .val (.long q2), .second, .val (.long (q1 >>> ((32 : Int32) &&& 0x3f).toInt64)), .second, .val (.long (q1 &&& (4294967295 : Int64))), .second, .val (.long (q2 >>> ((32 : Int32) &&& 0x3f).toInt64)), .second, .val (.long (q2 &&& (4294967295 : Int64))), .second, .val (.long v1), .second, .val (.long v2), .second, .val (.long v3), .second, .val (.long (v2 >>> ((32 : Int32) &&& 0x3f).toInt64)), .second] [(.long (q1 >>> ((32 : Int32) &&& 0x3f).toInt64))])) (fun t k => XS.lload X0.here hx rfl (hb hby d2_71) rfl k) ?_
  refine Goes.st (U' := s₁.setTop (mkF m 75 #[.val (.long q1), .second, .val (.long q2), .second, .val (.long (q1 >>> ((32 : Int32) &&& 0x3f).toInt64)), .second, .val (.long (q1 &&& (4294967295 : Int64))), .second, .val (.long (q2 >>> ((32 : Int32) &&& 0x3f).toInt64)), .second, .val (.long (q2 &&& (4294967295 : Int64))), .second, .val (.long v1), .second, .val (.long v2), .second, .val (.long v3), .second, .val (.long (v2 >>> ((32 : Int32) &&& 0x3f).toInt64)), .second] [(.long (q2 >>> ((32 : Int32) &&& 0x3f).toInt64)), (.long (q1 >>> ((32 : Int32) &&& 0x3f).toInt64))])) (fun t k => XS.lload X0.here hx rfl (hb hby d2_73) rfl k) ?_
  refine Goes.st (U' := s₁.setTop (mkF m 76 #[.val (.long q1), .second, .val (.long q2), .second, .val (.long (q1 >>> ((32 : Int32) &&& 0x3f).toInt64)), .second, .val (.long (q1 &&& (4294967295 : Int64))), .second, .val (.long (q2 >>> ((32 : Int32) &&& 0x3f).toInt64)), .second, .val (.long (q2 &&& (4294967295 : Int64))), .second, .val (.long v1), .second, .val (.long v2), .second, .val (.long v3), .second, .val (.long (v2 >>> ((32 : Int32) &&& 0x3f).toInt64)), .second] [(.long ((q1 >>> ((32 : Int32) &&& 0x3f).toInt64) * (q2 >>> ((32 : Int32) &&& 0x3f).toInt64)))])) (fun t k => XS.lmul X0.here hx rfl (hb hby d2_75) rfl k) ?_
  refine Goes.st (U' := s₁.setTop (mkF m 78 #[.val (.long q1), .second, .val (.long q2), .second, .val (.long (q1 >>> ((32 : Int32) &&& 0x3f).toInt64)), .second, .val (.long (q1 &&& (4294967295 : Int64))), .second, .val (.long (q2 >>> ((32 : Int32) &&& 0x3f).toInt64)), .second, .val (.long (q2 &&& (4294967295 : Int64))), .second, .val (.long v1), .second, .val (.long v2), .second, .val (.long v3), .second, .val (.long (v2 >>> ((32 : Int32) &&& 0x3f).toInt64)), .second] [(.long (v2 >>> ((32 : Int32) &&& 0x3f).toInt64)), (.long ((q1 >>> ((32 : Int32) &&& 0x3f).toInt64) * (q2 >>> ((32 : Int32) &&& 0x3f).toInt64)))])) (fun t k => XS.lload X0.here hx rfl (hb hby d2_76) rfl k) ?_
  refine Goes.st (U' := s₁.setTop (mkF m 79 #[.val (.long q1), .second, .val (.long q2), .second, .val (.long (q1 >>> ((32 : Int32) &&& 0x3f).toInt64)), .second, .val (.long (q1 &&& (4294967295 : Int64))), .second, .val (.long (q2 >>> ((32 : Int32) &&& 0x3f).toInt64)), .second, .val (.long (q2 &&& (4294967295 : Int64))), .second, .val (.long v1), .second, .val (.long v2), .second, .val (.long v3), .second, .val (.long (v2 >>> ((32 : Int32) &&& 0x3f).toInt64)), .second] [(.long (((q1 >>> ((32 : Int32) &&& 0x3f).toInt64) * (q2 >>> ((32 : Int32) &&& 0x3f).toInt64)) + (v2 >>> ((32 : Int32) &&& 0x3f).toInt64)))])) (fun t k => XS.ladd X0.here hx rfl (hb hby d2_78) rfl k) ?_
  refine Goes.st (U' := s₁.setTop (mkF m 81 #[.val (.long q1), .second, .val (.long q2), .second, .val (.long (q1 >>> ((32 : Int32) &&& 0x3f).toInt64)), .second, .val (.long (q1 &&& (4294967295 : Int64))), .second, .val (.long (q2 >>> ((32 : Int32) &&& 0x3f).toInt64)), .second, .val (.long (q2 &&& (4294967295 : Int64))), .second, .val (.long v1), .second, .val (.long v2), .second, .val (.long v3), .second, .val (.long (v2 >>> ((32 : Int32) &&& 0x3f).toInt64)), .second] [(.long v3), (.long (((q1 >>> ((32 : Int32) &&& 0x3f).toInt64) * (q2 >>> ((32 : Int32) &&& 0x3f).toInt64)) + (v2 >>> ((32 : Int32) &&& 0x3f).toInt64)))])) (fun t k => XS.lload X0.here hx rfl (hb hby d2_79) rfl k) ?_
  refine Goes.st (U' := s₁.setTop (mkF m 83 #[.val (.long q1), .second, .val (.long q2), .second, .val (.long (q1 >>> ((32 : Int32) &&& 0x3f).toInt64)), .second, .val (.long (q1 &&& (4294967295 : Int64))), .second, .val (.long (q2 >>> ((32 : Int32) &&& 0x3f).toInt64)), .second, .val (.long (q2 &&& (4294967295 : Int64))), .second, .val (.long v1), .second, .val (.long v2), .second, .val (.long v3), .second, .val (.long (v2 >>> ((32 : Int32) &&& 0x3f).toInt64)), .second] [(.int (32 : Int32)), (.long v3), (.long (((q1 >>> ((32 : Int32) &&& 0x3f).toInt64) * (q2 >>> ((32 : Int32) &&& 0x3f).toInt64)) + (v2 >>> ((32 : Int32) &&& 0x3f).toInt64)))])) (fun t k => XS.bipush X0.here hx rfl (hb hby d2_81) k) ?_
  refine Goes.st (U' := s₁.setTop (mkF m 84 #[.val (.long q1), .second, .val (.long q2), .second, .val (.long (q1 >>> ((32 : Int32) &&& 0x3f).toInt64)), .second, .val (.long (q1 &&& (4294967295 : Int64))), .second, .val (.long (q2 >>> ((32 : Int32) &&& 0x3f).toInt64)), .second, .val (.long (q2 &&& (4294967295 : Int64))), .second, .val (.long v1), .second, .val (.long v2), .second, .val (.long v3), .second, .val (.long (v2 >>> ((32 : Int32) &&& 0x3f).toInt64)), .second] [(.long (v3 >>> ((32 : Int32) &&& 0x3f).toInt64)), (.long (((q1 >>> ((32 : Int32) &&& 0x3f).toInt64) * (q2 >>> ((32 : Int32) &&& 0x3f).toInt64)) + (v2 >>> ((32 : Int32) &&& 0x3f).toInt64)))])) (fun t k => XS.lshr X0.here hx rfl (hb hby d2_83) rfl k) ?_
  refine Goes.st (U' := s₁.setTop (mkF m 85 #[.val (.long q1), .second, .val (.long q2), .second, .val (.long (q1 >>> ((32 : Int32) &&& 0x3f).toInt64)), .second, .val (.long (q1 &&& (4294967295 : Int64))), .second, .val (.long (q2 >>> ((32 : Int32) &&& 0x3f).toInt64)), .second, .val (.long (q2 &&& (4294967295 : Int64))), .second, .val (.long v1), .second, .val (.long v2), .second, .val (.long v3), .second, .val (.long (v2 >>> ((32 : Int32) &&& 0x3f).toInt64)), .second] [(.long ((((q1 >>> ((32 : Int32) &&& 0x3f).toInt64) * (q2 >>> ((32 : Int32) &&& 0x3f).toInt64)) + (v2 >>> ((32 : Int32) &&& 0x3f).toInt64)) + (v3 >>> ((32 : Int32) &&& 0x3f).toInt64)))])) (fun t k => XS.ladd X0.here hx rfl (hb hby d2_84) rfl k) ?_
  refine Goes.retJ X0 hx (BodyLoose.notSynchronized Bd) Bd.returns (hb hby d2_85) (by decide) (by decide) ?_
  show Q2 Z q1 q2 h0 n0 _ s₁.heap _
  rw [e0]
  exact ⟨(by subst hv3; subst hv2; subst hv1; rfl), N0, rfl⟩
theorem d1_0 : decode prog_17_method_16_code 0 = .ok (.lload_n 0, 1) := by decide +kernel
theorem d1_1 : decode prog_17_method_16_code 1 = .ok (.lload_n 2, 1) := by decide +kernel
theorem d1_2 : decode prog_17_method_16_code 2 = .ok (.invokestatic 184, 3) := by decide +kernel
theorem d1_5 : decode prog_17_method_16_code 5 = .ok (.lload_n 0, 1) := by decide +kernel
theorem d1_6 : decode prog_17_method_16_code 6 = .ok (.bipush 63, 2) := by decide +kernel
theorem d1_8 : decode prog_17_method_16_code 8 = .ok (.lshr, 1) := by decide +kernel
theorem d1_9 : decode prog_17_method_16_code 9 = .ok (.lload_n 2, 1) := by decide +kernel
theorem d1_10 : decode prog_17_method_16_code 10 = .ok (.land, 1) := by decide +kernel
theorem d1_11 : decode prog_17_method_16_code 11 = .ok (.ladd, 1) := by decide +kernel
theorem d1_12 : decode prog_17_method_16_code 12 = .ok (.lload_n 2, 1) := by decide +kernel
theorem d1_13 : decode prog_17_method_16_code 13 = .ok (.bipush 63, 2) := by decide +kernel
theorem d1_15 : decode prog_17_method_16_code 15 = .ok (.lshr, 1) := by decide +kernel
theorem d1_16 : decode prog_17_method_16_code 16 = .ok (.lload_n 0, 1) := by decide +kernel
theorem d1_17 : decode prog_17_method_16_code 17 = .ok (.land, 1) := by decide +kernel
theorem d1_18 : decode prog_17_method_16_code 18 = .ok (.ladd, 1) := by decide +kernel
theorem d1_19 : decode prog_17_method_16_code 19 = .ok (.lreturn, 1) := by decide +kernel
theorem pd_0 : parseMethodDescriptor "(JJ)J" = some ⟨[.long, .long], some .long⟩ := by decide +kernel
theorem pn_0 : plainName "reelwright/hash/Xxh3Core" = true := by first | (simp [plainName, overriddenIn]; done) | decide +kernel
theorem ef_rm1 (m : MethodId) (q1 : Int64) (q2 : Int64) : entryFrame m #[(.long q1), (.long q2)] 4 = mkF m 0 #[.val (.long q1), .second, .val (.long q2), .second] [] := by first | (simp [entryFrame, mkF, argsToLocals, Value.category]; done) | rfl
def fn1 (q1 : Int64) (q2 : Int64) : Int64 := (((fn2 q1 q2) + ((q1 >>> ((63 : Int32) &&& 0x3f).toInt64) &&& q2)) + ((q2 >>> ((63 : Int32) &&& 0x3f).toInt64) &&& q1))
def Q1 (Z : State) (q1 : Int64) (q2 : Int64) (h0 : Heap) (n0 : Nat) (v : Option Value) (h : Heap) (L : List Loc) : Prop := v = some (.long (fn1 q1 q2)) ∧ Fr n0 L ∧ h = h0
set_option maxRecDepth 65536 in
set_option maxHeartbeats 40000000 in
theorem rm1 (l : Launch) (Z : State) (a0 : Array Value) (hw : ∀ d ∈ tables_1, d.before a0 Z = true) (ws : List Jvm.Cond) (q1 : Int64) (q2 : Int64) (h0 : Heap) (n0 : Nat) (Z0 : n0 ≤ h0.size) :
    MetFree l (⟨"reelwright/hash/Xxh3Core", "productHigh", "(JJ)J"⟩ : MethodName) (head1 (Jvm.Cond.code (⟨"reelwright/hash/Xxh3Core", "productHigh", "(JJ)J"⟩ : MethodName) prog_17_method_16_code 4 (some .long) :: ws) ({ frames := 1, cells := 0, slots := 0, locals := 31 } : Room)) (fun a U => a = #[(.long q1), (.long q2)] ∧ Z.Warmed39 U.vm ∧ U.heap = h0) (fun _ _ _ _ _ => True) (fun _ U o U' => ∃ v L, o = .returned v ∧ Q1 Z q1 q2 h0 n0 v U'.heap L ∧ FrameEnd U o U' L ({ frames := 1, cells := 0, slots := 0, locals := 31 } : Room).cells ({ frames := 1, cells := 0, slots := 0, locals := 31 } : Room).slots) := by
  refine MetFree.of_bodySF (plainFor_of_name pn_0) hisR ?_
  intro p e s m args below meth c s₁ Bd hml0 hP hK
  obtain ⟨rfl, hZ, hh⟩ := hP
  have hx := Bd.exec
  have hby := Bd.bytes
  have hml : c.maxLocals = 4 := hml0
  have hown : s.vm.findClass "reelwright/hash/Xxh3Core" = some m.cls := findClass_of_methodNamed Bd.named
  have hnm := (name_of_methodNamed Bd.named Bd.method).1
  have X0 : Stand p l e ({ frames := 1, cells := 0, slots := 0, locals := 31 } : Room) s m #[(.long q1), (.long q2)] below meth c s₁ [] 0 0 := Stand.of_body Bd
  have e0 : s₁.heap = h0 := by rw [← hh, Bd.state]; rfl
  have N0 := Fr.nil n0
  show Goes p e s below (fun v h L => Q1 Z q1 q2 h0 n0 v h L) ({ frames := 1, cells := 0, slots := 0, locals := 31 } : Room).cells ({ frames := 1, cells := 0, slots := 0, locals := 31 } : Room).slots (s₁.setTop (entryFrame m #[(.long q1), (.long q2)] 4))
  refine Goes.st (U' := s₁.setTop (mkF m 0 #[.val (.long q1), .second, .val (.long q2), .second] [])) (fun t k => castTop (ef_rm1 m q1 q2) k) ?_
  refine Goes.st (U' := s₁.setTop (mkF m 1 #[.val (.long q1), .second, .val (.long q2), .second] [(.long q1)])) (fun t k => XS.lloadN X0.here hx rfl (hb hby d1_0) rfl k) ?_
  refine Goes.st (U' := s₁.setTop (mkF m 2 #[.val (.long q1), .second, .val (.long q2), .second] [(.long q2), (.long q1)])) (fun t k => XS.lloadN X0.here hx rfl (hb hby d1_1) rfl k) ?_
  obtain ⟨_, _, ⟨T1, L1, k1, n1⟩, -, X1, ⟨Lc1, hQ1, l1, y1, z1⟩, st1⟩ := Jvm.LawKit.callS X0 hx (y := (⟨"java/lang/Math", "multiplyHigh", "(JJ)J"⟩ : MethodName)) hown (mvT hZ (hw _ (List.mem_of_getElem? (i := 5) rfl))) (mvT hZ (hw _ (List.mem_of_getElem? (i := 6) rfl))) (mvT hZ (hw _ (List.mem_of_getElem? (i := 7) rfl))) (mvT hZ (hw _ (List.mem_of_getElem? (i := 8) rfl))) (by decide) (backOf (W := 0) (rm2 l Z a0 hw [] q1 q2 h0 n0 Z0) hZ (hw _ (List.mem_of_getElem? (i := 8) rfl)) (hw _ (List.mem_of_getElem? (i := 7) rfl)) (by decide) (by decide)) (g := (mkF m 2 #[.val (.long q1), .second, .val (.long q2), .second] [(.long q2), (.long q1)])) rfl (by rw [hml]; rfl) (argsL := [(.long q1), (.long q2)]) (rest := []) (lenOf pd_0 rfl) rfl (by show 2 * 0 + _ ≤ _; exact Nat.le_of_eq rfl) (hb hby d1_2) (fun _ _ => ⟨rfl, e0, (by decide : 0 + 0 ≤ _), (by decide : 0 + 0 ≤ _)⟩)
  dsimp only [Pt.U, Pt.locs, Pt.cells, Pt.slots] at X1 l1 y1 z1 st1 hQ1
  subst l1 y1 z1
  obtain ⟨rfl, N1q, e1⟩ := hQ1
  have N1 := Fr.app N0 N1q
  refine Goes.st (U' := T1.setTop (mkF m 5 #[.val (.long q1), .second, .val (.long q2), .second] [(.long (fn2 q1 q2))])) st1 ?_
  refine Goes.st (U' := T1.setTop (mkF m 6 #[.val (.long q1), .second, .val (.long q2), .second] [(.long q1), (.long (fn2 q1 q2))])) (fun t k => XS.lloadN X1.here hx rfl (hb hby d1_5) rfl k) ?_
  refine Goes.st (U' := T1.setTop (mkF m 8 #[.val (.long q1), .second, .val (.long q2), .second] [(.int (63 : Int32)), (.long q1), (.long (fn2 q1 q2))])) (fun t k => XS.bipush X1.here hx rfl (hb hby d1_6) k) ?_
  refine Goes.st (U' := T1.setTop (mkF m 9 #[.val (.long q1), .second, .val (.long q2), .second] [(.long (q1 >>> ((63 : Int32) &&& 0x3f).toInt64)), (.long (fn2 q1 q2))])) (fun t k => XS.lshr X1.here hx rfl (hb hby d1_8) rfl k) ?_
  refine Goes.st (U' := T1.setTop (mkF m 10 #[.val (.long q1), .second, .val (.long q2), .second] [(.long q2), (.long (q1 >>> ((63 : Int32) &&& 0x3f).toInt64)), (.long (fn2 q1 q2))])) (fun t k => XS.lloadN X1.here hx rfl (hb hby d1_9) rfl k) ?_
  refine Goes.st (U' := T1.setTop (mkF m 11 #[.val (.long q1), .second, .val (.long q2), .second] [(.long ((q1 >>> ((63 : Int32) &&& 0x3f).toInt64) &&& q2)), (.long (fn2 q1 q2))])) (fun t k => XS.land X1.here hx rfl (hb hby d1_10) rfl k) ?_
  refine Goes.st (U' := T1.setTop (mkF m 12 #[.val (.long q1), .second, .val (.long q2), .second] [(.long ((fn2 q1 q2) + ((q1 >>> ((63 : Int32) &&& 0x3f).toInt64) &&& q2)))])) (fun t k => XS.ladd X1.here hx rfl (hb hby d1_11) rfl k) ?_
  refine Goes.st (U' := T1.setTop (mkF m 13 #[.val (.long q1), .second, .val (.long q2), .second] [(.long q2), (.long ((fn2 q1 q2) + ((q1 >>> ((63 : Int32) &&& 0x3f).toInt64) &&& q2)))])) (fun t k => XS.lloadN X1.here hx rfl (hb hby d1_12) rfl k) ?_
  refine Goes.st (U' := T1.setTop (mkF m 15 #[.val (.long q1), .second, .val (.long q2), .second] [(.int (63 : Int32)), (.long q2), (.long ((fn2 q1 q2) + ((q1 >>> ((63 : Int32) &&& 0x3f).toInt64) &&& q2)))])) (fun t k => XS.bipush X1.here hx rfl (hb hby d1_13) k) ?_
  refine Goes.st (U' := T1.setTop (mkF m 16 #[.val (.long q1), .second, .val (.long q2), .second] [(.long (q2 >>> ((63 : Int32) &&& 0x3f).toInt64)), (.long ((fn2 q1 q2) + ((q1 >>> ((63 : Int32) &&& 0x3f).toInt64) &&& q2)))])) (fun t k => XS.lshr X1.here hx rfl (hb hby d1_15) rfl k) ?_
  refine Goes.st (U' := T1.setTop (mkF m 17 #[.val (.long q1), .second, .val (.long q2), .second] [(.long q1), (.long (q2 >>> ((63 : Int32) &&& 0x3f).toInt64)), (.long ((fn2 q1 q2) + ((q1 >>> ((63 : Int32) &&& 0x3f).toInt64) &&& q2)))])) (fun t k => XS.lloadN X1.here hx rfl (hb hby d1_16) rfl k) ?_
  refine Goes.st (U' := T1.setTop (mkF m 18 #[.val (.long q1), .second, .val (.long q2), .second] [(.long ((q2 >>> ((63 : Int32) &&& 0x3f).toInt64) &&& q1)), (.long ((fn2 q1 q2) + ((q1 >>> ((63 : Int32) &&& 0x3f).toInt64) &&& q2)))])) (fun t k => XS.land X1.here hx rfl (hb hby d1_17) rfl k) ?_
  refine Goes.st (U' := T1.setTop (mkF m 19 #[.val (.long q1), .second, .val (.long q2), .second] [(.long (((fn2 q1 q2) + ((q1 >>> ((63 : Int32) &&& 0x3f).toInt64) &&& q2)) + ((q2 >>> ((63 : Int32) &&& 0x3f).toInt64) &&& q1)))])) (fun t k => XS.ladd X1.here hx rfl (hb hby d1_18) rfl k) ?_
  refine Goes.retJ X1 hx (BodyLoose.notSynchronized Bd) Bd.returns (hb hby d1_19) (by decide) (by decide) ?_
  show Q1 Z q1 q2 h0 n0 _ T1.heap _
  rw [e1]
  exact ⟨rfl, N1, rfl⟩
theorem pn_1 : plainName "reelwright/hash/Xxh3CoreProductHighPinLaw" = true := by first | (simp [plainName, overriddenIn]; done) | decide +kernel
theorem ef_rm0 (m : MethodId) (q1 : Int64) (q2 : Int64) : entryFrame m #[(.long q1), (.long q2)] maxLocals = mkF m 0 #[.val (.long q1), .second, .val (.long q2), .second, .unset, .unset, .unset, .unset, .unset, .unset, .unset, .unset, .unset, .unset, .unset, .unset, .unset, .unset, .unset, .unset, .unset, .unset, .unset, .unset, .unset, .unset] [] := by first | (simp [entryFrame, mkF, argsToLocals, Value.category, maxLocals]; done) | rfl
def fn0 (q1 : Int64) (q2 : Int64) : Int32 := (let v1 : Int64 := ((q1.toUInt64 >>> ((32 : Int32) &&& 0x3f).toInt64.toUInt64).toInt64); (let v2 : Int64 := ((q2.toUInt64 >>> ((32 : Int32) &&& 0x3f).toInt64.toUInt64).toInt64); (let v3 : Int64 := ((q1 &&& (4294967295 : Int64)) * (q2 &&& (4294967295 : Int64))); (let v4 : Int64 := ((((v3.toUInt64 >>> ((32 : Int32) &&& 0x3f).toInt64.toUInt64).toInt64) + (((q1 &&& (4294967295 : Int64)) * v2) &&& (4294967295 : Int64))) + (v1 * (q2 &&& (4294967295 : Int64)))); (let v5 : Int64 := ((((((q1 &&& (4294967295 : Int64)) * v2).toUInt64 >>> ((32 : Int32) &&& 0x3f).toInt64.toUInt64).toInt64) + ((v4.toUInt64 >>> ((32 : Int32) &&& 0x3f).toInt64.toUInt64).toInt64)) + (v1 * v2)); (let v6 : Int64 := ((v4 <<< ((32 : Int32) &&& 0x3f).toInt64) ||| (v3 &&& (4294967295 : Int64))); (if v6 = (q1 * q2) then (if (fn1 q1 q2) = v5 then (1 : Int32) else (0 : Int32)) else (0 : Int32))))))))
def Q0 (Z : State) (q1 : Int64) (q2 : Int64) (h0 : Heap) (n0 : Nat) (v : Option Value) (h : Heap) (L : List Loc) : Prop := v = some (.int (fn0 q1 q2)) ∧ Fr n0 L ∧ h = h0
set_option maxRecDepth 65536 in
set_option maxHeartbeats 40000000 in
theorem rm0 (l : Launch) (Z : State) (a0 : Array Value) (hw : ∀ d ∈ tables_1, d.before a0 Z = true) (ws : List Jvm.Cond) (q1 : Int64) (q2 : Int64) (h0 : Heap) (n0 : Nat) (Z0 : n0 ≤ h0.size) :
    MetFree l x (head1 (Jvm.Cond.code x code maxLocals ret :: ws) room_1) (fun a U => a = #[(.long q1), (.long q2)] ∧ Z.Warmed39 U.vm ∧ U.heap = h0) (fun _ _ _ _ _ => True) (fun _ U o U' => ∃ v L, o = .returned v ∧ Q0 Z q1 q2 h0 n0 v U'.heap L ∧ FrameEnd U o U' L room_1.cells room_1.slots) := by
  refine MetFree.of_bodySF (plainFor_of_name pn_1) hisR ?_
  intro p e s m args below meth c s₁ Bd hml0 hP hK
  obtain ⟨rfl, hZ, hh⟩ := hP
  have hx := Bd.exec
  have hby := Bd.bytes
  have hml : c.maxLocals = 26 := hml0
  have hown : s.vm.findClass "reelwright/hash/Xxh3CoreProductHighPinLaw" = some m.cls := findClass_of_methodNamed Bd.named
  have hnm := (name_of_methodNamed Bd.named Bd.method).1
  have X0 : Stand p l e room_1 s m #[(.long q1), (.long q2)] below meth c s₁ [] 0 0 := Stand.of_body Bd
  have e0 : s₁.heap = h0 := by rw [← hh, Bd.state]; rfl
  have N0 := Fr.nil n0
  show Goes p e s below (fun v h L => Q0 Z q1 q2 h0 n0 v h L) room_1.cells room_1.slots (s₁.setTop (entryFrame m #[(.long q1), (.long q2)] maxLocals))
  refine Goes.st (U' := s₁.setTop (mkF m 0 #[.val (.long q1), .second, .val (.long q2), .second, .unset, .unset, .unset, .unset, .unset, .unset, .unset, .unset, .unset, .unset, .unset, .unset, .unset, .unset, .unset, .unset, .unset, .unset, .unset, .unset, .unset, .unset] [])) (fun t k => castTop (ef_rm0 m q1 q2) k) ?_
  refine Goes.st (U' := s₁.setTop (mkF m 1 #[.val (.long q1), .second, .val (.long q2), .second, .unset, .unset, .unset, .unset, .unset, .unset, .unset, .unset, .unset, .unset, .unset, .unset, .unset, .unset, .unset, .unset, .unset, .unset, .unset, .unset, .unset, .unset] [(.long q1)])) (fun t k => XS.lloadN X0.here hx rfl (hb hby at_0) rfl k) ?_
  refine Goes.st (U' := s₁.setTop (mkF m 4 #[.val (.long q1), .second, .val (.long q2), .second, .unset, .unset, .unset, .unset, .unset, .unset, .unset, .unset, .unset, .unset, .unset, .unset, .unset, .unset, .unset, .unset, .unset, .unset, .unset, .unset, .unset, .unset] [(.long (4294967295 : Int64)), (.long q1)])) (fun t k => X0.ldc2Long hx hown (mvT hZ (hw _ (List.mem_of_getElem? (i := 0) rfl))) (g := (mkF m 1 #[.val (.long q1), .second, .val (.long q2), .second, .unset, .unset, .unset, .unset, .unset, .unset, .unset, .unset, .unset, .unset, .unset, .unset, .unset, .unset, .unset, .unset, .unset, .unset, .unset, .unset, .unset, .unset] [(.long q1)])) rfl (hb hby at_1) t k) ?_
  refine Goes.st (U' := s₁.setTop (mkF m 5 #[.val (.long q1), .second, .val (.long q2), .second, .unset, .unset, .unset, .unset, .unset, .unset, .unset, .unset, .unset, .unset, .unset, .unset, .unset, .unset, .unset, .unset, .unset, .unset, .unset, .unset, .unset, .unset] [(.long (q1 &&& (4294967295 : Int64)))])) (fun t k => XS.land X0.here hx rfl (hb hby at_4) rfl k) ?_
  refine Goes.st (U' := s₁.setTop (mkF m 7 #[.val (.long q1), .second, .val (.long q2), .second, .val (.long (q1 &&& (4294967295 : Int64))), .second, .unset, .unset, .unset, .unset, .unset, .unset, .unset, .unset, .unset, .unset, .unset, .unset, .unset, .unset, .unset, .unset, .unset, .unset, .unset, .unset] [])) (fun t k => XS.lstore X0.here hx rfl (hb hby at_5) rfl (l' := #[.val (.long q1), .second, .val (.long q2), .second, .val (.long (q1 &&& (4294967295 : Int64))), .second, .unset, .unset, .unset, .unset, .unset, .unset, .unset, .unset, .unset, .unset, .unset, .unset, .unset, .unset, .unset, .unset, .unset, .unset, .unset, .unset]) rfl k) ?_
  refine Goes.st (U' := s₁.setTop (mkF m 8 #[.val (.long q1), .second, .val (.long q2), .second, .val (.long (q1 &&& (4294967295 : Int64))), .second, .unset, .unset, .unset, .unset, .unset, .unset, .unset, .unset, .unset, .unset, .unset, .unset, .unset, .unset, .unset, .unset, .unset, .unset, .unset, .unset] [(.long q1)])) (fun t k => XS.lloadN X0.here hx rfl (hb hby at_7) rfl k) ?_
  refine Goes.st (U' := s₁.setTop (mkF m 10 #[.val (.long q1), .second, .val (.long q2), .second, .val (.long (q1 &&& (4294967295 : Int64))), .second, .unset, .unset, .unset, .unset, .unset, .unset, .unset, .unset, .unset, .unset, .unset, .unset, .unset, .unset, .unset, .unset, .unset, .unset, .unset, .unset] [(.int (32 : Int32)), (.long q1)])) (fun t k => XS.bipush X0.here hx rfl (hb hby at_8) k) ?_
  refine Goes.st (U' := s₁.setTop (mkF m 11 #[.val (.long q1), .second, .val (.long q2), .second, .val (.long (q1 &&& (4294967295 : Int64))), .second, .unset, .unset, .unset, .unset, .unset, .unset, .unset, .unset, .unset, .unset, .unset, .unset, .unset, .unset, .unset, .unset, .unset, .unset, .unset, .unset] [(.long ((q1.toUInt64 >>> ((32 : Int32) &&& 0x3f).toInt64.toUInt64).toInt64))])) (fun t k => XS.lushr X0.here hx rfl (hb hby at_10) rfl k) ?_
  obtain ⟨v1, hv1⟩ : ∃ z : Int64, z = ((q1.toUInt64 >>> ((32 : Int32) &&& 0x3f).toInt64.toUInt64).toInt64) := ⟨_, rfl⟩
  refine Goes.st (U' := s₁.setTop (mkF m 13 #[.val (.long q1), .second, .val (.long q2), .second, .val (.long (q1 &&& (4294967295 : Int64))), .second, .val (.long v1), .second, .unset, .unset, .unset, .unset, .unset, .unset, .unset, .unset, .unset, .unset, .unset, .unset, .unset, .unset, .unset, .unset, .unset, .unset] [])) (fun t k => (by subst hv1; exact XS.lstore X0.here hx rfl (hb hby at_11) rfl (l' := #[.val (.long q1), .second, .val (.long q2), .second, .val (.long (q1 &&& (4294967295 : Int64))), .second, .val (.long ((q1.toUInt64 >>> ((32 : Int32) &&& 0x3f).toInt64.toUInt64).toInt64)), .second, .unset, .unset, .unset, .unset, .unset, .unset, .unset, .unset, .unset, .unset, .unset, .unset, .unset, .unset, .unset, .unset, .unset, .unset]) rfl k)) ?_
  refine Goes.st (U' := s₁.setTop (mkF m 14 #[.val (.long q1), .second, .val (.long q2), .second, .val (.long (q1 &&& (4294967295 : Int64))), .second, .val (.long v1), .second, .unset, .unset, .unset, .unset, .unset, .unset, .unset, .unset, .unset, .unset, .unset, .unset, .unset, .unset, .unset, .unset, .unset, .unset] [(.long q2)])) (fun t k => XS.lloadN X0.here hx rfl (hb hby at_13) rfl k) ?_
  refine Goes.st (U' := s₁.setTop (mkF m 17 #[.val (.long q1), .second, .val (.long q2), .second, .val (.long (q1 &&& (4294967295 : Int64))), .second, .val (.long v1), .second, .unset, .unset, .unset, .unset, .unset, .unset, .unset, .unset, .unset, .unset, .unset, .unset, .unset, .unset, .unset, .unset, .unset, .unset] [(.long (4294967295 : Int64)), (.long q2)])) (fun t k => X0.ldc2Long hx hown (mvT hZ (hw _ (List.mem_of_getElem? (i := 0) rfl))) (g := (mkF m 14 #[.val (.long q1), .second, .val (.long q2), .second, .val (.long (q1 &&& (4294967295 : Int64))), .second, .val (.long v1), .second, .unset, .unset, .unset, .unset, .unset, .unset, .unset, .unset, .unset, .unset, .unset, .unset, .unset, .unset, .unset, .unset, .unset, .unset] [(.long q2)])) rfl (hb hby at_14) t k) ?_
  refine Goes.st (U' := s₁.setTop (mkF m 18 #[.val (.long q1), .second, .val (.long q2), .second, .val (.long (q1 &&& (4294967295 : Int64))), .second, .val (.long v1), .second, .unset, .unset, .unset, .unset, .unset, .unset, .unset, .unset, .unset, .unset, .unset, .unset, .unset, .unset, .unset, .unset, .unset, .unset] [(.long (q2 &&& (4294967295 : Int64)))])) (fun t k => XS.land X0.here hx rfl (hb hby at_17) rfl k) ?_
  refine Goes.st (U' := s₁.setTop (mkF m 20 #[.val (.long q1), .second, .val (.long q2), .second, .val (.long (q1 &&& (4294967295 : Int64))), .second, .val (.long v1), .second, .val (.long (q2 &&& (4294967295 : Int64))), .second, .unset, .unset, .unset, .unset, .unset, .unset, .unset, .unset, .unset, .unset, .unset, .unset, .unset, .unset, .unset, .unset] [])) (fun t k => XS.lstore X0.here hx rfl (hb hby at_18) rfl (l' := #[.val (.long q1), .second, .val (.long q2), .second, .val (.long (q1 &&& (4294967295 : Int64))), .second, .val (.long v1), .second, .val (.long (q2 &&& (4294967295 : Int64))), .second, .unset, .unset, .unset, .unset, .unset, .unset, .unset, .unset, .unset, .unset, .unset, .unset, .unset, .unset, .unset, .unset]) rfl k) ?_
  refine Goes.st (U' := s₁.setTop (mkF m 21 #[.val (.long q1), .second, .val (.long q2), .second, .val (.long (q1 &&& (4294967295 : Int64))), .second, .val (.long v1), .second, .val (.long (q2 &&& (4294967295 : Int64))), .second, .unset, .unset, .unset, .unset, .unset, .unset, .unset, .unset, .unset, .unset, .unset, .unset, .unset, .unset, .unset, .unset] [(.long q2)])) (fun t k => XS.lloadN X0.here hx rfl (hb hby at_20) rfl k) ?_
  refine Goes.st (U' := s₁.setTop (mkF m 23 #[.val (.long q1), .second, .val (.long q2), .second, .val (.long (q1 &&& (4294967295 : Int64))), .second, .val (.long v1), .second, .val (.long (q2 &&& (4294967295 : Int64))), .second, .unset, .unset, .unset, .unset, .unset, .unset, .unset, .unset, .unset, .unset, .unset, .unset, .unset, .unset, .unset, .unset] [(.int (32 : Int32)), (.long q2)])) (fun t k => XS.bipush X0.here hx rfl (hb hby at_21) k) ?_
  refine Goes.st (U' := s₁.setTop (mkF m 24 #[.val (.long q1), .second, .val (.long q2), .second, .val (.long (q1 &&& (4294967295 : Int64))), .second, .val (.long v1), .second, .val (.long (q2 &&& (4294967295 : Int64))), .second, .unset, .unset, .unset, .unset, .unset, .unset, .unset, .unset, .unset, .unset, .unset, .unset, .unset, .unset, .unset, .unset] [(.long ((q2.toUInt64 >>> ((32 : Int32) &&& 0x3f).toInt64.toUInt64).toInt64))])) (fun t k => XS.lushr X0.here hx rfl (hb hby at_23) rfl k) ?_
  obtain ⟨v2, hv2⟩ : ∃ z : Int64, z = ((q2.toUInt64 >>> ((32 : Int32) &&& 0x3f).toInt64.toUInt64).toInt64) := ⟨_, rfl⟩
  refine Goes.st (U' := s₁.setTop (mkF m 26 #[.val (.long q1), .second, .val (.long q2), .second, .val (.long (q1 &&& (4294967295 : Int64))), .second, .val (.long v1), .second, .val (.long (q2 &&& (4294967295 : Int64))), .second, .val (.long v2), .second, .unset, .unset, .unset, .unset, .unset, .unset, .unset, .unset, .unset, .unset, .unset, .unset, .unset, .unset] [])) (fun t k => (by subst hv2; exact XS.lstore X0.here hx rfl (hb hby at_24) rfl (l' := #[.val (.long q1), .second, .val (.long q2), .second, .val (.long (q1 &&& (4294967295 : Int64))), .second, .val (.long v1), .second, .val (.long (q2 &&& (4294967295 : Int64))), .second, .val (.long ((q2.toUInt64 >>> ((32 : Int32) &&& 0x3f).toInt64.toUInt64).toInt64)), .second, .unset, .unset, .unset, .unset, .unset, .unset, .unset, .unset, .unset, .unset, .unset, .unset, .unset, .unset]) rfl k)) ?_
  refine Goes.st (U' := s₁.setTop (mkF m 28 #[.val (.long q1), .second, .val (.long q2), .second, .val (.long (q1 &&& (4294967295 : Int64))), .second, .val (.long v1), .second, .val (.long (q2 &&& (4294967295 : Int64))), .second, .val (.long v2), .second, .unset, .unset, .unset, .unset, .unset, .unset, .unset, .unset, .unset, .unset, .unset, .unset, .unset, .unset] [(.long (q1 &&& (4294967295 : Int64)))])) (fun t k => XS.lload X0.here hx rfl (hb hby at_26) rfl k) ?_
  refine Goes.st (U' := s₁.setTop (mkF m 30 #[.val (.long q1), .second, .val (.long q2), .second, .val (.long (q1 &&& (4294967295 : Int64))), .second, .val (.long v1), .second, .val (.long (q2 &&& (4294967295 : Int64))), .second, .val (.long v2), .second, .unset, .unset, .unset, .unset, .unset, .unset, .unset, .unset, .unset, .unset, .unset, .unset, .unset, .unset] [(.long (q2 &&& (4294967295 : Int64))), (.long (q1 &&& (4294967295 : Int64)))])) (fun t k => XS.lload X0.here hx rfl (hb hby at_28) rfl k) ?_
  refine Goes.st (U' := s₁.setTop (mkF m 31 #[.val (.long q1), .second, .val (.long q2), .second, .val (.long (q1 &&& (4294967295 : Int64))), .second, .val (.long v1), .second, .val (.long (q2 &&& (4294967295 : Int64))), .second, .val (.long v2), .second, .unset, .unset, .unset, .unset, .unset, .unset, .unset, .unset, .unset, .unset, .unset, .unset, .unset, .unset] [(.long ((q1 &&& (4294967295 : Int64)) * (q2 &&& (4294967295 : Int64))))])) (fun t k => XS.lmul X0.here hx rfl (hb hby at_30) rfl k) ?_
  obtain ⟨v3, hv3⟩ : ∃ z : Int64, z = ((q1 &&& (4294967295 : Int64)) * (q2 &&& (4294967295 : Int64))) := ⟨_, rfl⟩
  refine Goes.st (U' := s₁.setTop (mkF m 33 #[.val (.long q1), .second, .val (.long q2), .second, .val (.long (q1 &&& (4294967295 : Int64))), .second, .val (.long v1), .second, .val (.long (q2 &&& (4294967295 : Int64))), .second, .val (.long v2), .second, .val (.long v3), .second, .unset, .unset, .unset, .unset, .unset, .unset, .unset, .unset, .unset, .unset, .unset, .unset] [])) (fun t k => (by subst hv3; exact XS.lstore X0.here hx rfl (hb hby at_31) rfl (l' := #[.val (.long q1), .second, .val (.long q2), .second, .val (.long (q1 &&& (4294967295 : Int64))), .second, .val (.long v1), .second, .val (.long (q2 &&& (4294967295 : Int64))), .second, .val (.long v2), .second, .val (.long ((q1 &&& (4294967295 : Int64)) * (q2 &&& (4294967295 : Int64)))), .second, .unset, .unset, .unset, .unset, .unset, .unset, .unset, .unset, .unset, .unset, .unset, .unset]) rfl k)) ?_
  refine Goes.st (U' := s₁.setTop (mkF m 35 #[.val (.long q1), .second, .val (.long q2), .second, .val (.long (q1 &&& (4294967295 : Int64))), .second, .val (.long v1), .second, .val (.long (q2 &&& (4294967295 : Int64))), .second, .val (.long v2), .second, .val (.long v3), .second, .unset, .unset, .unset, .unset, .unset, .unset, .unset, .unset, .unset, .unset, .unset, .unset] [(.long (q1 &&& (4294967295 : Int64)))])) (fun t k => XS.lload X0.here hx rfl (hb hby at_33) rfl k) ?_
  refine Goes.st (U' := s₁.setTop (mkF m 37 #[.val (.long q1), .second, .val (.long q2), .second, .val (.long (q1 &&& (4294967295 : Int64))), .second, .val (.long v1), .second, .val (.long (q2 &&& (4294967295 : Int64))), .second, .val (.long v2), .second, .val (.long v3), .second, .unset, .unset, .unset, .unset, .unset, .unset, .unset, .unset, .unset, .unset, .unset, .unset] [(.long v2), (.long (q1 &&& (4294967295 : Int64)))])) (fun t k => XS.lload X0.here hx rfl (hb hby at_35) rfl k) ?_
  refine Goes.st (U' := s₁.setTop (mkF m 38 #[.val (.long q1), .second, .val (.long q2), .second, .val (.long (q1 &&& (4294967295 : Int64))), .second, .val (.long v1), .second, .val (.long (q2 &&& (4294967295 : Int64))), .second, .val (.long v2), .second, .val (.long v3), .second, .unset, .unset, .unset, .unset, .unset, .unset, .unset, .unset, .unset, .unset, .unset, .unset] [(.long ((q1 &&& (4294967295 : Int64)) * v2))])) (fun t k => XS.lmul X0.here hx rfl (hb hby at_37) rfl k) ?_
  refine Goes.st (U' := s₁.setTop (mkF m 40 #[.val (.long q1), .second, .val (.long q2), .second, .val (.long (q1 &&& (4294967295 : Int64))), .second, .val (.long v1), .second, .val (.long (q2 &&& (4294967295 : Int64))), .second, .val (.long v2), .second, .val (.long v3), .second, .val (.long ((q1 &&& (4294967295 : Int64)) * v2)), .second, .unset, .unset, .unset, .unset, .unset, .unset, .unset, .unset, .unset, .unset] [])) (fun t k => XS.lstore X0.here hx rfl (hb hby at_38) rfl (l' := #[.val (.long q1), .second, .val (.long q2), .second, .val (.long (q1 &&& (4294967295 : Int64))), .second, .val (.long v1), .second, .val (.long (q2 &&& (4294967295 : Int64))), .second, .val (.long v2), .second, .val (.long v3), .second, .val (.long ((q1 &&& (4294967295 : Int64)) * v2)), .second, .unset, .unset, .unset, .unset, .unset, .unset, .unset, .unset, .unset, .unset]) rfl k) ?_
  refine Goes.st (U' := s₁.setTop (mkF m 42 #[.val (.long q1), .second, .val (.long q2), .second, .val (.long (q1 &&& (4294967295 : Int64))), .second, .val (.long v1), .second, .val (.long (q2 &&& (4294967295 : Int64))), .second, .val (.long v2), .second, .val (.long v3), .second, .val (.long ((q1 &&& (4294967295 : Int64)) * v2)), .second, .unset, .unset, .unset, .unset, .unset, .unset, .unset, .unset, .unset, .unset] [(.long v1)])) (fun t k => XS.lload X0.here hx rfl (hb hby at_40) rfl k) ?_
  refine Goes.st (U' := s₁.setTop (mkF m 44 #[.val (.long q1), .second, .val (.long q2), .second, .val (.long (q1 &&& (4294967295 : Int64))), .second, .val (.long v1), .second, .val (.long (q2 &&& (4294967295 : Int64))), .second, .val (.long v2), .second, .val (.long v3), .second, .val (.long ((q1 &&& (4294967295 : Int64)) * v2)), .second, .unset, .unset, .unset, .unset, .unset, .unset, .unset, .unset, .unset, .unset] [(.long (q2 &&& (4294967295 : Int64))), (.long v1)])) (fun t k => XS.lload X0.here hx rfl (hb hby at_42) rfl k) ?_
  refine Goes.st (U' := s₁.setTop (mkF m 45 #[.val (.long q1), .second, .val (.long q2), .second, .val (.long (q1 &&& (4294967295 : Int64))), .second, .val (.long v1), .second, .val (.long (q2 &&& (4294967295 : Int64))), .second, .val (.long v2), .second, .val (.long v3), .second, .val (.long ((q1 &&& (4294967295 : Int64)) * v2)), .second, .unset, .unset, .unset, .unset, .unset, .unset, .unset, .unset, .unset, .unset] [(.long (v1 * (q2 &&& (4294967295 : Int64))))])) (fun t k => XS.lmul X0.here hx rfl (hb hby at_44) rfl k) ?_
  refine Goes.st (U' := s₁.setTop (mkF m 47 #[.val (.long q1), .second, .val (.long q2), .second, .val (.long (q1 &&& (4294967295 : Int64))), .second, .val (.long v1), .second, .val (.long (q2 &&& (4294967295 : Int64))), .second, .val (.long v2), .second, .val (.long v3), .second, .val (.long ((q1 &&& (4294967295 : Int64)) * v2)), .second, .val (.long (v1 * (q2 &&& (4294967295 : Int64)))), .second, .unset, .unset, .unset, .unset, .unset, .unset, .unset, .unset] [])) (fun t k => XS.lstore X0.here hx rfl (hb hby at_45) rfl (l' := #[.val (.long q1), .second, .val (.long q2), .second, .val (.long (q1 &&& (4294967295 : Int64))), .second, .val (.long v1), .second, .val (.long (q2 &&& (4294967295 : Int64))), .second, .val (.long v2), .second, .val (.long v3), .second, .val (.long ((q1 &&& (4294967295 : Int64)) * v2)), .second, .val (.long (v1 * (q2 &&& (4294967295 : Int64)))), .second, .unset, .unset, .unset, .unset, .unset, .unset, .unset, .unset]) rfl k) ?_
  refine Goes.st (U' := s₁.setTop (mkF m 49 #[.val (.long q1), .second, .val (.long q2), .second, .val (.long (q1 &&& (4294967295 : Int64))), .second, .val (.long v1), .second, .val (.long (q2 &&& (4294967295 : Int64))), .second, .val (.long v2), .second, .val (.long v3), .second, .val (.long ((q1 &&& (4294967295 : Int64)) * v2)), .second, .val (.long (v1 * (q2 &&& (4294967295 : Int64)))), .second, .unset, .unset, .unset, .unset, .unset, .unset, .unset, .unset] [(.long v1)])) (fun t k => XS.lload X0.here hx rfl (hb hby at_47) rfl k) ?_
  refine Goes.st (U' := s₁.setTop (mkF m 51 #[.val (.long q1), .second, .val (.long q2), .second, .val (.long (q1 &&& (4294967295 : Int64))), .second, .val (.long v1), .second, .val (.long (q2 &&& (4294967295 : Int64))), .second, .val (.long v2), .second, .val (.long v3), .second, .val (.long ((q1 &&& (4294967295 : Int64)) * v2)), .second, .val (.long (v1 * (q2 &&& (4294967295 : Int64)))), .second, .unset, .unset, .unset, .unset, .unset, .unset, .unset, .unset] [(.long v2), (.long v1)])) (fun t k => XS.lload X0.here hx rfl (hb hby at_49) rfl k) ?_
  refine Goes.st (U' := s₁.setTop (mkF m 52 #[.val (.long q1), .second, .val (.long q2), .second, .val (.long (q1 &&& (4294967295 : Int64))), .second, .val (.long v1), .second, .val (.long (q2 &&& (4294967295 : Int64))), .second, .val (.long v2), .second, .val (.long v3), .second, .val (.long ((q1 &&& (4294967295 : Int64)) * v2)), .second, .val (.long (v1 * (q2 &&& (4294967295 : Int64)))), .second, .unset, .unset, .unset, .unset, .unset, .unset, .unset, .unset] [(.long (v1 * v2))])) (fun t k => XS.lmul X0.here hx rfl (hb hby at_51) rfl k) ?_
  refine Goes.st (U' := s₁.setTop (mkF m 54 #[.val (.long q1), .second, .val (.long q2), .second, .val (.long (q1 &&& (4294967295 : Int64))), .second, .val (.long v1), .second, .val (.long (q2 &&& (4294967295 : Int64))), .second, .val (.long v2), .second, .val (.long v3), .second, .val (.long ((q1 &&& (4294967295 : Int64)) * v2)), .second, .val (.long (v1 * (q2 &&& (4294967295 : Int64)))), .second, .val (.long (v1 * v2)), .second, .unset, .unset, .unset, .unset, .unset, .unset] [])) (fun t k => XS.lstore X0.here hx rfl (hb hby at_52) rfl (l' := #[.val (.long q1), .second, .val (.long q2), .second, .val (.long (q1 &&& (4294967295 : Int64))), .second, .val (.long v1), .second, .val (.long (q2 &&& (4294967295 : Int64))), .second, .val (.long v2), .second, .val (.long v3), .second, .val (.long ((q1 &&& (4294967295 : Int64)) * v2)), .second, .val (.long (v1 * (q2 &&& (4294967295 : Int64)))), .second, .val (.long (v1 * v2)), .second, .unset, .unset, .unset, .unset, .unset, .unset]) rfl k) ?_
  refine Goes.st (U' := s₁.setTop (mkF m 56 #[.val (.long q1), .second, .val (.long q2), .second, .val (.long (q1 &&& (4294967295 : Int64))), .second, .val (.long v1), .second, .val (.long (q2 &&& (4294967295 : Int64))), .second, .val (.long v2), .second, .val (.long v3), .second, .val (.long ((q1 &&& (4294967295 : Int64)) * v2)), .second, .val (.long (v1 * (q2 &&& (4294967295 : Int64)))), .second, .val (.long (v1 * v2)), .second, .unset, .unset, .unset, .unset, .unset, .unset] [(.long v3)])) (fun t k => XS.lload X0.here hx rfl (hb hby at_54) rfl k) ?_
  refine Goes.st (U' := s₁.setTop (mkF m 58 #[.val (.long q1), .second, .val (.long q2), .second, .val (.long (q1 &&& (4294967295 : Int64))), .second, .val (.long v1), .second, .val (.long (q2 &&& (4294967295 : Int64))), .second, .val (.long v2), .second, .val (.long v3), .second, .val (.long ((q1 &&& (4294967295 : Int64)) * v2)), .second, .val (.long (v1 * (q2 &&& (4294967295 : Int64)))), .second, .val (.long (v1 * v2)), .second, .unset, .unset, .unset, .unset, .unset, .unset] [(.int (32 : Int32)), (.long v3)])) (fun t k => XS.bipush X0.here hx rfl (hb hby at_56) k) ?_
  refine Goes.st (U' := s₁.setTop (mkF m 59 #[.val (.long q1), .second, .val (.long q2), .second, .val (.long (q1 &&& (4294967295 : Int64))), .second, .val (.long v1), .second, .val (.long (q2 &&& (4294967295 : Int64))), .second, .val (.long v2), .second, .val (.long v3), .second, .val (.long ((q1 &&& (4294967295 : Int64)) * v2)), .second, .val (.long (v1 * (q2 &&& (4294967295 : Int64)))), .second, .val (.long (v1 * v2)), .second, .unset, .unset, .unset, .unset, .unset, .unset] [(.long ((v3.toUInt64 >>> ((32 : Int32) &&& 0x3f).toInt64.toUInt64).toInt64))])) (fun t k => XS.lushr X0.here hx rfl (hb hby at_58) rfl k) ?_
  refine Goes.st (U' := s₁.setTop (mkF m 61 #[.val (.long q1), .second, .val (.long q2), .second, .val (.long (q1 &&& (4294967295 : Int64))), .second, .val (.long v1), .second, .val (.long (q2 &&& (4294967295 : Int64))), .second, .val (.long v2), .second, .val (.long v3), .second, .val (.long ((q1 &&& (4294967295 : Int64)) * v2)), .second, .val (.long (v1 * (q2 &&& (4294967295 : Int64)))), .second, .val (.long (v1 * v2)), .second, .unset, .unset, .unset, .unset, .unset, .unset] [(.long ((q1 &&& (4294967295 : Int64)) * v2)), (.long ((v3.toUInt64 >>> ((32 : Int32) &&& 0x3f).toInt64.toUInt64).toInt64))])) (fun t k => XS.lload X0.here hx rfl (hb hby at_59) rfl k) ?_
  refine Goes.st (U' := s₁.setTop (mkF m 64 #[.val (.long q1), .second, .val (.long q2), .second, .val (.long (q1 &&& (4294967295 : Int64))), .second, .val (.long v1), .second, .val (.long (q2 &&& (4294967295 : Int64))), .second, .val (.long v2), .second, .val (.long v3), .second, .val (.long ((q1 &&& (4294967295 : Int64)) * v2)), .second, .val (.long (v1 * (q2 &&& (4294967295 : Int64)))), .second, .val (.long (v1 * v2)), .second, .unset, .unset, .unset, .unset, .unset, .unset] [(.long (4294967295 : Int64)), (.long ((q1 &&& (4294967295 : Int64)) * v2)), (.long ((v3.toUInt64 >>> ((32 : Int32) &&& 0x3f).toInt64.toUInt64).toInt64))])) (fun t k => X0.ldc2Long hx hown (mvT hZ (hw _ (List.mem_of_getElem? (i := 0) rfl))) (g := (mkF m 61 #[.val (.long q1), .second, .val (.long q2), .second, .val (.long (q1 &&& (4294967295 : Int64))), .second, .val (.long v1), .second, .val (.long (q2 &&& (4294967295 : Int64))), .second, .val (.long v2), .second, .val (.long v3), .second, .val (.long ((q1 &&& (4294967295 : Int64)) * v2)), .second, .val (.long (v1 * (q2 &&& (4294967295 : Int64)))), .second, .val (.long (v1 * v2)), .second, .unset, .unset, .unset, .unset, .unset, .unset] [(.long ((q1 &&& (4294967295 : Int64)) * v2)), (.long ((v3.toUInt64 >>> ((32 : Int32) &&& 0x3f).toInt64.toUInt64).toInt64))])) rfl (hb hby at_61) t k) ?_
  refine Goes.st (U' := s₁.setTop (mkF m 65 #[.val (.long q1), .second, .val (.long q2), .second, .val (.long (q1 &&& (4294967295 : Int64))), .second, .val (.long v1), .second, .val (.long (q2 &&& (4294967295 : Int64))), .second, .val (.long v2), .second, .val (.long v3), .second, .val (.long ((q1 &&& (4294967295 : Int64)) * v2)), .second, .val (.long (v1 * (q2 &&& (4294967295 : Int64)))), .second, .val (.long (v1 * v2)), .second, .unset, .unset, .unset, .unset, .unset, .unset] [(.long (((q1 &&& (4294967295 : Int64)) * v2) &&& (4294967295 : Int64))), (.long ((v3.toUInt64 >>> ((32 : Int32) &&& 0x3f).toInt64.toUInt64).toInt64))])) (fun t k => XS.land X0.here hx rfl (hb hby at_64) rfl k) ?_
  refine Goes.st (U' := s₁.setTop (mkF m 66 #[.val (.long q1), .second, .val (.long q2), .second, .val (.long (q1 &&& (4294967295 : Int64))), .second, .val (.long v1), .second, .val (.long (q2 &&& (4294967295 : Int64))), .second, .val (.long v2), .second, .val (.long v3), .second, .val (.long ((q1 &&& (4294967295 : Int64)) * v2)), .second, .val (.long (v1 * (q2 &&& (4294967295 : Int64)))), .second, .val (.long (v1 * v2)), .second, .unset, .unset, .unset, .unset, .unset, .unset] [(.long (((v3.toUInt64 >>> ((32 : Int32) &&& 0x3f).toInt64.toUInt64).toInt64) + (((q1 &&& (4294967295 : Int64)) * v2) &&& (4294967295 : Int64))))])) (fun t k => XS.ladd X0.here hx rfl (hb hby at_65) rfl k) ?_
  refine Goes.st (U' := s₁.setTop (mkF m 68 #[.val (.long q1), .second, .val (.long q2), .second, .val (.long (q1 &&& (4294967295 : Int64))), .second, .val (.long v1), .second, .val (.long (q2 &&& (4294967295 : Int64))), .second, .val (.long v2), .second, .val (.long v3), .second, .val (.long ((q1 &&& (4294967295 : Int64)) * v2)), .second, .val (.long (v1 * (q2 &&& (4294967295 : Int64)))), .second, .val (.long (v1 * v2)), .second, .unset, .unset, .unset, .unset, .unset, .unset] [(.long (v1 * (q2 &&& (4294967295 : Int64)))), (.long (((v3.toUInt64 >>> ((32 : Int32) &&& 0x3f).toInt64.toUInt64).toInt64) + (((q1 &&& (4294967295 : Int64)) * v2) &&& (4294967295 : Int64))))])) (fun t k => XS.lload X0.here hx rfl (hb hby at_66) rfl k) ?_
  refine Goes.st (U' := s₁.setTop (mkF m 69 #[.val (.long q1), .second, .val (.long q2), .second, .val (.long (q1 &&& (4294967295 : Int64))), .second, .val (.long v1), .second, .val (.long (q2 &&& (4294967295 : Int64))), .second, .val (.long v2), .second, .val (.long v3), .second, .val (.long ((q1 &&& (4294967295 : Int64)) * v2)), .second, .val (.long (v1 * (q2 &&& (4294967295 : Int64)))), .second, .val (.long (v1 * v2)), .second, .unset, .unset, .unset, .unset, .unset, .unset] [(.long ((((v3.toUInt64 >>> ((32 : Int32) &&& 0x3f).toInt64.toUInt64).toInt64) + (((q1 &&& (4294967295 : Int64)) * v2) &&& (4294967295 : Int64))) + (v1 * (q2 &&& (4294967295 : Int64)))))])) (fun t k => XS.ladd X0.here hx rfl (hb hby at_68) rfl k) ?_
  obtain ⟨v4, hv4⟩ : ∃ z : Int64, z = ((((v3.toUInt64 >>> ((32 : Int32) &&& 0x3f).toInt64.toUInt64).toInt64) + (((q1 &&& (4294967295 : Int64)) * v2) &&& (4294967295 : Int64))) + (v1 * (q2 &&& (4294967295 : Int64)))) := ⟨_, rfl⟩
  refine Goes.st (U' := s₁.setTop (mkF m 71 #[.val (.long q1), .second, .val (.long q2), .second, .val (.long (q1 &&& (4294967295 : Int64))), .second, .val (.long v1), .second, .val (.long (q2 &&& (4294967295 : Int64))), .second, .val (.long v2), .second, .val (.long v3), .second, .val (.long ((q1 &&& (4294967295 : Int64)) * v2)), .second, .val (.long (v1 * (q2 &&& (4294967295 : Int64)))), .second, .val (.long (v1 * v2)), .second, .val (.long v4), .second, .unset, .unset, .unset, .unset] [])) (fun t k => (by subst hv4; exact XS.lstore X0.here hx rfl (hb hby at_69) rfl (l' := #[.val (.long q1), .second, .val (.long q2), .second, .val (.long (q1 &&& (4294967295 : Int64))), .second, .val (.long v1), .second, .val (.long (q2 &&& (4294967295 : Int64))), .second, .val (.long v2), .second, .val (.long v3), .second, .val (.long ((q1 &&& (4294967295 : Int64)) * v2)), .second, .val (.long (v1 * (q2 &&& (4294967295 : Int64)))), .second, .val (.long (v1 * v2)), .second, .val (.long ((((v3.toUInt64 >>> ((32 : Int32) &&& 0x3f).toInt64.toUInt64).toInt64) + (((q1 &&& (4294967295 : Int64)) * v2) &&& (4294967295 : Int64))) + (v1 * (q2 &&& (4294967295 : Int64))))), .second, .unset, .unset, .unset, .unset]) rfl k)) ?_
  refine Goes.st (U' := s₁.setTop (mkF m 73 #[.val (.long q1), .second, .val (.long q2), .second, .val (.long (q1 &&& (4294967295 : Int64))), .second, .val (.long v1), .second, .val (.long (q2 &&& (4294967295 : Int64))), .second, .val (.long v2), .second, .val (.long v3), .second, .val (.long ((q1 &&& (4294967295 : Int64)) * v2)), .second, .val (.long (v1 * (q2 &&& (4294967295 : Int64)))), .second, .val (.long (v1 * v2)), .second, .val (.long v4), .second, .unset, .unset, .unset, .unset] [(.long ((q1 &&& (4294967295 : Int64)) * v2))])) (fun t k => XS.lload X0.here hx rfl (hb hby at_71) rfl k) ?_
  refine Goes.st (U' := s₁.setTop (mkF m 75 #[.val (.long q1), .second, .val (.long q2), .second, .val (.long (q1 &&& (4294967295 : Int64))), .second, .val (.long v1), .second, .val (.long (q2 &&& (4294967295 : Int64))), .second, .val (.long v2), .second, .val (.long v3), .second, .val (.long ((q1 &&& (4294967295 : Int64)) * v2)), .second, .val (.long (v1 * (q2 &&& (4294967295 : Int64)))), .second, .val (.long (v1 * v2)), .second, .val (.long v4), .second, .unset, .unset, .unset, .unset] [(.int (32 : Int32)), (.long ((q1 &&& (4294967295 : Int64)) * v2))])) (fun t k => XS.bipush X0.here hx rfl (hb hby at_73) k) ?_
  refine Goes.st (U' := s₁.setTop (mkF m 76 #[.val (.long q1), .second, .val (.long q2), .second, .val (.long (q1 &&& (4294967295 : Int64))), .second, .val (.long v1), .second, .val (.long (q2 &&& (4294967295 : Int64))), .second, .val (.long v2), .second, .val (.long v3), .second, .val (.long ((q1 &&& (4294967295 : Int64)) * v2)), .second, .val (.long (v1 * (q2 &&& (4294967295 : Int64)))), .second, .val (.long (v1 * v2)), .second, .val (.long v4), .second, .unset, .unset, .unset, .unset] [(.long ((((q1 &&& (4294967295 : Int64)) * v2).toUInt64 >>> ((32 : Int32) &&& 0x3f).toInt64.toUInt64).toInt64))])) (fun t k => XS.lushr X0.here hx rfl (hb hby at_75) rfl k) ?_
  refine Goes.st (U' := s₁.setTop (mkF m 78 #[.val (.long q1), .second, .val (.long q2), .second, .val (.long (q1 &&& (4294967295 : Int64))), .second, .val (.long v1), .second, .val (.long (q2 &&& (4294967295 : Int64))), .second, .val (.long v2), .second, .val (.long v3), .second, .val (.long ((q1 &&& (4294967295 : Int64)) * v2)), .second, .val (.long (v1 * (q2 &&& (4294967295 : Int64)))), .second, .val (.long (v1 * v2)), .second, .val (.long v4), .second, .unset, .unset, .unset, .unset] [(.long v4), (.long ((((q1 &&& (4294967295 : Int64)) * v2).toUInt64 >>> ((32 : Int32) &&& 0x3f).toInt64.toUInt64).toInt64))])) (fun t k => XS.lload X0.here hx rfl (hb hby at_76) rfl k) ?_
  refine Goes.st (U' := s₁.setTop (mkF m 80 #[.val (.long q1), .second, .val (.long q2), .second, .val (.long (q1 &&& (4294967295 : Int64))), .second, .val (.long v1), .second, .val (.long (q2 &&& (4294967295 : Int64))), .second, .val (.long v2), .second, .val (.long v3), .second, .val (.long ((q1 &&& (4294967295 : Int64)) * v2)), .second, .val (.long (v1 * (q2 &&& (4294967295 : Int64)))), .second, .val (.long (v1 * v2)), .second, .val (.long v4), .second, .unset, .unset, .unset, .unset] [(.int (32 : Int32)), (.long v4), (.long ((((q1 &&& (4294967295 : Int64)) * v2).toUInt64 >>> ((32 : Int32) &&& 0x3f).toInt64.toUInt64).toInt64))])) (fun t k => XS.bipush X0.here hx rfl (hb hby at_78) k) ?_
  refine Goes.st (U' := s₁.setTop (mkF m 81 #[.val (.long q1), .second, .val (.long q2), .second, .val (.long (q1 &&& (4294967295 : Int64))), .second, .val (.long v1), .second, .val (.long (q2 &&& (4294967295 : Int64))), .second, .val (.long v2), .second, .val (.long v3), .second, .val (.long ((q1 &&& (4294967295 : Int64)) * v2)), .second, .val (.long (v1 * (q2 &&& (4294967295 : Int64)))), .second, .val (.long (v1 * v2)), .second, .val (.long v4), .second, .unset, .unset, .unset, .unset] [(.long ((v4.toUInt64 >>> ((32 : Int32) &&& 0x3f).toInt64.toUInt64).toInt64)), (.long ((((q1 &&& (4294967295 : Int64)) * v2).toUInt64 >>> ((32 : Int32) &&& 0x3f).toInt64.toUInt64).toInt64))])) (fun t k => XS.lushr X0.here hx rfl (hb hby at_80) rfl k) ?_
  refine Goes.st (U' := s₁.setTop (mkF m 82 #[.val (.long q1), .second, .val (.long q2), .second, .val (.long (q1 &&& (4294967295 : Int64))), .second, .val (.long v1), .second, .val (.long (q2 &&& (4294967295 : Int64))), .second, .val (.long v2), .second, .val (.long v3), .second, .val (.long ((q1 &&& (4294967295 : Int64)) * v2)), .second, .val (.long (v1 * (q2 &&& (4294967295 : Int64)))), .second, .val (.long (v1 * v2)), .second, .val (.long v4), .second, .unset, .unset, .unset, .unset] [(.long (((((q1 &&& (4294967295 : Int64)) * v2).toUInt64 >>> ((32 : Int32) &&& 0x3f).toInt64.toUInt64).toInt64) + ((v4.toUInt64 >>> ((32 : Int32) &&& 0x3f).toInt64.toUInt64).toInt64)))])) (fun t k => XS.ladd X0.here hx rfl (hb hby at_81) rfl k) ?_
  refine Goes.st (U' := s₁.setTop (mkF m 84 #[.val (.long q1), .second, .val (.long q2), .second, .val (.long (q1 &&& (4294967295 : Int64))), .second, .val (.long v1), .second, .val (.long (q2 &&& (4294967295 : Int64))), .second, .val (.long v2), .second, .val (.long v3), .second, .val (.long ((q1 &&& (4294967295 : Int64)) * v2)), .second, .val (.long (v1 * (q2 &&& (4294967295 : Int64)))), .second, .val (.long (v1 * v2)), .second, .val (.long v4), .second, .unset, .unset, .unset, .unset] [(.long (v1 * v2)), (.long (((((q1 &&& (4294967295 : Int64)) * v2).toUInt64 >>> ((32 : Int32) &&& 0x3f).toInt64.toUInt64).toInt64) + ((v4.toUInt64 >>> ((32 : Int32) &&& 0x3f).toInt64.toUInt64).toInt64)))])) (fun t k => XS.lload X0.here hx rfl (hb hby at_82) rfl k) ?_
  refine Goes.st (U' := s₁.setTop (mkF m 85 #[.val (.long q1), .second, .val (.long q2), .second, .val (.long (q1 &&& (4294967295 : Int64))), .second, .val (.long v1), .second, .val (.long (q2 &&& (4294967295 : Int64))), .second, .val (.long v2), .second, .val (.long v3), .second, .val (.long ((q1 &&& (4294967295 : Int64)) * v2)), .second, .val (.long (v1 * (q2 &&& (4294967295 : Int64)))), .second, .val (.long (v1 * v2)), .second, .val (.long v4), .second, .unset, .unset, .unset, .unset] [(.long ((((((q1 &&& (4294967295 : Int64)) * v2).toUInt64 >>> ((32 : Int32) &&& 0x3f).toInt64.toUInt64).toInt64) + ((v4.toUInt64 >>> ((32 : Int32) &&& 0x3f).toInt64.toUInt64).toInt64)) + (v1 * v2)))])) (fun t k => XS.ladd X0.here hx rfl (hb hby at_84) rfl k) ?_
  obtain ⟨v5, hv5⟩ : ∃ z : Int64, z = ((((((q1 &&& (4294967295 : Int64)) * v2).toUInt64 >>> ((32 : Int32) &&& 0x3f).toInt64.toUInt64).toInt64) + ((v4.toUInt64 >>> ((32 : Int32) &&& 0x3f).toInt64.toUInt64).toInt64)) + (v1 * v2)) := ⟨_, rfl⟩
  refine Goes.st (U' := s₁.setTop (mkF m 87 #[.val (.long q1), .second, .val (.long q2), .second, .val (.long (q1 &&& (4294967295 : Int64))), .second, .val (.long v1), .second, .val (.long (q2 &&& (4294967295 : Int64))), .second, .val (.long v2), .second, .val (.long v3), .second, .val (.long ((q1 &&& (4294967295 : Int64)) * v2)), .second, .val (.long (v1 * (q2 &&& (4294967295 : Int64)))), .second, .val (.long (v1 * v2)), .second, .val (.long v4), .second, .val (.long v5), .second, .unset, .unset] [])) (fun t k => (by subst hv5; exact XS.lstore X0.here hx rfl (hb hby at_85) rfl (l' := #[.val (.long q1), .second, .val (.long q2), .second, .val (.long (q1 &&& (4294967295 : Int64))), .second, .val (.long v1), .second, .val (.long (q2 &&& (4294967295 : Int64))), .second, .val (.long v2), .second, .val (.long v3), .second, .val (.long ((q1 &&& (4294967295 : Int64)) * v2)), .second, .val (.long (v1 * (q2 &&& (4294967295 : Int64)))), .second, .val (.long (v1 * v2)), .second, .val (.long v4), .second, .val (.long ((((((q1 &&& (4294967295 : Int64)) * v2).toUInt64 >>> ((32 : Int32) &&& 0x3f).toInt64.toUInt64).toInt64) + ((v4.toUInt64 >>> ((32 : Int32) &&& 0x3f).toInt64.toUInt64).toInt64)) + (v1 * v2))), .second, .unset, .unset]) rfl k)) ?_
  refine Goes.st (U' := s₁.setTop (mkF m 89 #[.val (.long q1), .second, .val (.long q2), .second, .val (.long (q1 &&& (4294967295 : Int64))), .second, .val (.long v1), .second, .val (.long (q2 &&& (4294967295 : Int64))), .second, .val (.long v2), .second, .val (.long v3), .second, .val (.long ((q1 &&& (4294967295 : Int64)) * v2)), .second, .val (.long (v1 * (q2 &&& (4294967295 : Int64)))), .second, .val (.long (v1 * v2)), .second, .val (.long v4), .second, .val (.long v5), .second, .unset, .unset] [(.long v4)])) (fun t k => XS.lload X0.here hx rfl (hb hby at_87) rfl k) ?_
  refine Goes.st (U' := s₁.setTop (mkF m 91 #[.val (.long q1), .second, .val (.long q2), .second, .val (.long (q1 &&& (4294967295 : Int64))), .second, .val (.long v1), .second, .val (.long (q2 &&& (4294967295 : Int64))), .second, .val (.long v2), .second, .val (.long v3), .second, .val (.long ((q1 &&& (4294967295 : Int64)) * v2)), .second, .val (.long (v1 * (q2 &&& (4294967295 : Int64)))), .second, .val (.long (v1 * v2)), .second, .val (.long v4), .second, .val (.long v5), .second, .unset, .unset] [(.int (32 : Int32)), (.long v4)])) (fun t k => XS.bipush X0.here hx rfl (hb hby at_89) k) ?_
  refine Goes.st (U' := s₁.setTop (mkF m 92 #[.val (.long q1), .second, .val (.long q2), .second, .val (.long (q1 &&& (4294967295 : Int64))), .second, .val (.long v1), .second, .val (.long (q2 &&& (4294967295 : Int64))), .second, .val (.long v2), .second, .val (.long v3), .second, .val (.long ((q1 &&& (4294967295 : Int64)) * v2)), .second, .val (.long (v1 * (q2 &&& (4294967295 : Int64)))), .second, .val (.long (v1 * v2)), .second, .val (.long v4), .second, .val (.long v5), .second, .unset, .unset] [(.long (v4 <<< ((32 : Int32) &&& 0x3f).toInt64))])) (fun t k => XS.lshl X0.here hx rfl (hb hby at_91) rfl k) ?_
  refine Goes.st (U' := s₁.setTop (mkF m 94 #[.val (.long q1), .second, .val (.long q2), .second, .val (.long (q1 &&& (4294967295 : Int64))), .second, .val (.long v1), .second, .val (.long (q2 &&& (4294967295 : Int64))), .second, .val (.long v2), .second, .val (.long v3), .second, .val (.long ((q1 &&& (4294967295 : Int64)) * v2)), .second, .val (.long (v1 * (q2 &&& (4294967295 : Int64)))), .second, .val (.long (v1 * v2)), .second, .val (.long v4), .second, .val (.long v5), .second, .unset, .unset] [(.long v3), (.long (v4 <<< ((32 : Int32) &&& 0x3f).toInt64))])) (fun t k => XS.lload X0.here hx rfl (hb hby at_92) rfl k) ?_
  refine Goes.st (U' := s₁.setTop (mkF m 97 #[.val (.long q1), .second, .val (.long q2), .second, .val (.long (q1 &&& (4294967295 : Int64))), .second, .val (.long v1), .second, .val (.long (q2 &&& (4294967295 : Int64))), .second, .val (.long v2), .second, .val (.long v3), .second, .val (.long ((q1 &&& (4294967295 : Int64)) * v2)), .second, .val (.long (v1 * (q2 &&& (4294967295 : Int64)))), .second, .val (.long (v1 * v2)), .second, .val (.long v4), .second, .val (.long v5), .second, .unset, .unset] [(.long (4294967295 : Int64)), (.long v3), (.long (v4 <<< ((32 : Int32) &&& 0x3f).toInt64))])) (fun t k => X0.ldc2Long hx hown (mvT hZ (hw _ (List.mem_of_getElem? (i := 0) rfl))) (g := (mkF m 94 #[.val (.long q1), .second, .val (.long q2), .second, .val (.long (q1 &&& (4294967295 : Int64))), .second, .val (.long v1), .second, .val (.long (q2 &&& (4294967295 : Int64))), .second, .val (.long v2), .second, .val (.long v3), .second, .val (.long ((q1 &&& (4294967295 : Int64)) * v2)), .second, .val (.long (v1 * (q2 &&& (4294967295 : Int64)))), .second, .val (.long (v1 * v2)), .second, .val (.long v4), .second, .val (.long v5), .second, .unset, .unset] [(.long v3), (.long (v4 <<< ((32 : Int32) &&& 0x3f).toInt64))])) rfl (hb hby at_94) t k) ?_
  refine Goes.st (U' := s₁.setTop (mkF m 98 #[.val (.long q1), .second, .val (.long q2), .second, .val (.long (q1 &&& (4294967295 : Int64))), .second, .val (.long v1), .second, .val (.long (q2 &&& (4294967295 : Int64))), .second, .val (.long v2), .second, .val (.long v3), .second, .val (.long ((q1 &&& (4294967295 : Int64)) * v2)), .second, .val (.long (v1 * (q2 &&& (4294967295 : Int64)))), .second, .val (.long (v1 * v2)), .second, .val (.long v4), .second, .val (.long v5), .second, .unset, .unset] [(.long (v3 &&& (4294967295 : Int64))), (.long (v4 <<< ((32 : Int32) &&& 0x3f).toInt64))])) (fun t k => XS.land X0.here hx rfl (hb hby at_97) rfl k) ?_
  refine Goes.st (U' := s₁.setTop (mkF m 99 #[.val (.long q1), .second, .val (.long q2), .second, .val (.long (q1 &&& (4294967295 : Int64))), .second, .val (.long v1), .second, .val (.long (q2 &&& (4294967295 : Int64))), .second, .val (.long v2), .second, .val (.long v3), .second, .val (.long ((q1 &&& (4294967295 : Int64)) * v2)), .second, .val (.long (v1 * (q2 &&& (4294967295 : Int64)))), .second, .val (.long (v1 * v2)), .second, .val (.long v4), .second, .val (.long v5), .second, .unset, .unset] [(.long ((v4 <<< ((32 : Int32) &&& 0x3f).toInt64) ||| (v3 &&& (4294967295 : Int64))))])) (fun t k => XS.lor X0.here hx rfl (hb hby at_98) rfl k) ?_
  obtain ⟨v6, hv6⟩ : ∃ z : Int64, z = ((v4 <<< ((32 : Int32) &&& 0x3f).toInt64) ||| (v3 &&& (4294967295 : Int64))) := ⟨_, rfl⟩
  refine Goes.st (U' := s₁.setTop (mkF m 101 #[.val (.long q1), .second, .val (.long q2), .second, .val (.long (q1 &&& (4294967295 : Int64))), .second, .val (.long v1), .second, .val (.long (q2 &&& (4294967295 : Int64))), .second, .val (.long v2), .second, .val (.long v3), .second, .val (.long ((q1 &&& (4294967295 : Int64)) * v2)), .second, .val (.long (v1 * (q2 &&& (4294967295 : Int64)))), .second, .val (.long (v1 * v2)), .second, .val (.long v4), .second, .val (.long v5), .second, .val (.long v6), .second] [])) (fun t k => (by subst hv6; exact XS.lstore X0.here hx rfl (hb hby at_99) rfl (l' := #[.val (.long q1), .second, .val (.long q2), .second, .val (.long (q1 &&& (4294967295 : Int64))), .second, .val (.long v1), .second, .val (.long (q2 &&& (4294967295 : Int64))), .second, .val (.long v2), .second, .val (.long v3), .second, .val (.long ((q1 &&& (4294967295 : Int64)) * v2)), .second, .val (.long (v1 * (q2 &&& (4294967295 : Int64)))), .second, .val (.long (v1 * v2)), .second, .val (.long v4), .second, .val (.long v5), .second, .val (.long ((v4 <<< ((32 : Int32) &&& 0x3f).toInt64) ||| (v3 &&& (4294967295 : Int64)))), .second]) rfl k)) ?_
  refine Goes.st (U' := s₁.setTop (mkF m 103 #[.val (.long q1), .second, .val (.long q2), .second, .val (.long (q1 &&& (4294967295 : Int64))), .second, .val (.long v1), .second, .val (.long (q2 &&& (4294967295 : Int64))), .second, .val (.long v2), .second, .val (.long v3), .second, .val (.long ((q1 &&& (4294967295 : Int64)) * v2)), .second, .val (.long (v1 * (q2 &&& (4294967295 : Int64)))), .second, .val (.long (v1 * v2)), .second, .val (.long v4), .second, .val (.long v5), .second, .val (.long v6), .second] [(.long v6)])) (fun t k => XS.lload X0.here hx rfl (hb hby at_101) rfl k) ?_
  refine Goes.st (U' := s₁.setTop (mkF m 104 #[.val (.long q1), .second, .val (.long q2), .second, .val (.long (q1 &&& (4294967295 : Int64))), .second, .val (.long v1), .second, .val (.long (q2 &&& (4294967295 : Int64))), .second, .val (.long v2), .second, .val (.long v3), .second, .val (.long ((q1 &&& (4294967295 : Int64)) * v2)), .second, .val (.long (v1 * (q2 &&& (4294967295 : Int64)))), .second, .val (.long (v1 * v2)), .second, .val (.long v4), .second, .val (.long v5), .second, .val (.long v6), .second] [(.long q1), (.long v6)])) (fun t k => XS.lloadN X0.here hx rfl (hb hby at_103) rfl k) ?_
  refine Goes.st (U' := s₁.setTop (mkF m 105 #[.val (.long q1), .second, .val (.long q2), .second, .val (.long (q1 &&& (4294967295 : Int64))), .second, .val (.long v1), .second, .val (.long (q2 &&& (4294967295 : Int64))), .second, .val (.long v2), .second, .val (.long v3), .second, .val (.long ((q1 &&& (4294967295 : Int64)) * v2)), .second, .val (.long (v1 * (q2 &&& (4294967295 : Int64)))), .second, .val (.long (v1 * v2)), .second, .val (.long v4), .second, .val (.long v5), .second, .val (.long v6), .second] [(.long q2), (.long q1), (.long v6)])) (fun t k => XS.lloadN X0.here hx rfl (hb hby at_104) rfl k) ?_
  refine Goes.st (U' := s₁.setTop (mkF m 106 #[.val (.long q1), .second, .val (.long q2), .second, .val (.long (q1 &&& (4294967295 : Int64))), .second, .val (.long v1), .second, .val (.long (q2 &&& (4294967295 : Int64))), .second, .val (.long v2), .second, .val (.long v3), .second, .val (.long ((q1 &&& (4294967295 : Int64)) * v2)), .second, .val (.long (v1 * (q2 &&& (4294967295 : Int64)))), .second, .val (.long (v1 * v2)), .second, .val (.long v4), .second, .val (.long v5), .second, .val (.long v6), .second] [(.long (q1 * q2)), (.long v6)])) (fun t k => XS.lmul X0.here hx rfl (hb hby at_105) rfl k) ?_
  refine Goes.st (U' := s₁.setTop (mkF m 107 #[.val (.long q1), .second, .val (.long q2), .second, .val (.long (q1 &&& (4294967295 : Int64))), .second, .val (.long v1), .second, .val (.long (q2 &&& (4294967295 : Int64))), .second, .val (.long v2), .second, .val (.long v3), .second, .val (.long ((q1 &&& (4294967295 : Int64)) * v2)), .second, .val (.long (v1 * (q2 &&& (4294967295 : Int64)))), .second, .val (.long (v1 * v2)), .second, .val (.long v4), .second, .val (.long v5), .second, .val (.long v6), .second] [(.int (lcmpW v6 (q1 * q2)))])) (fun t k => XS.lcmp X0.here hx rfl (hb hby at_106) rfl k) ?_
  rcases Decidable.em (v6 = (q1 * q2)) with hc107 | hc107
  · refine Goes.st (U' := s₁.setTop (mkF m 110 #[.val (.long q1), .second, .val (.long q2), .second, .val (.long (q1 &&& (4294967295 : Int64))), .second, .val (.long v1), .second, .val (.long (q2 &&& (4294967295 : Int64))), .second, .val (.long v2), .second, .val (.long v3), .second, .val (.long ((q1 &&& (4294967295 : Int64)) * v2)), .second, .val (.long (v1 * (q2 &&& (4294967295 : Int64)))), .second, .val (.long (v1 * v2)), .second, .val (.long v4), .second, .val (.long v5), .second, .val (.long v6), .second] [])) (fun t k => XS.ifNo X0.here hx rfl (hb hby at_107) rfl ((if0 _ _).trans (teq ((lw_eq _ _).mpr hc107)).2) k) ?_
    refine Goes.st (U' := s₁.setTop (mkF m 111 #[.val (.long q1), .second, .val (.long q2), .second, .val (.long (q1 &&& (4294967295 : Int64))), .second, .val (.long v1), .second, .val (.long (q2 &&& (4294967295 : Int64))), .second, .val (.long v2), .second, .val (.long v3), .second, .val (.long ((q1 &&& (4294967295 : Int64)) * v2)), .second, .val (.long (v1 * (q2 &&& (4294967295 : Int64)))), .second, .val (.long (v1 * v2)), .second, .val (.long v4), .second, .val (.long v5), .second, .val (.long v6), .second] [(.long q1)])) (fun t k => XS.lloadN X0.here hx rfl (hb hby at_110) rfl k) ?_
    refine Goes.st (U' := s₁.setTop (mkF m 112 #[.val (.long q1), .second, .val (.long q2), .second, .val (.long (q1 &&& (4294967295 : Int64))), .second, .val (.long v1), .second, .val (.long (q2 &&& (4294967295 : Int64))), .second, .val (.long v2), .second, .val (.long v3), .second, .val (.long ((q1 &&& (4294967295 : Int64)) * v2)), .second, .val (.long (v1 * (q2 &&& (4294967295 : Int64)))), .second, .val (.long (v1 * v2)), .second, .val (.long v4), .second, .val (.long v5), .second, .val (.long v6), .second] [(.long q2), (.long q1)])) (fun t k => XS.lloadN X0.here hx rfl (hb hby at_111) rfl k) ?_
    obtain ⟨_, _, ⟨T7, L7, k7, n7⟩, -, X7, ⟨Lc7, hQ7, l7, y7, z7⟩, st7⟩ := Jvm.LawKit.callS X0 hx (y := (⟨"reelwright/hash/Xxh3Core", "productHigh", "(JJ)J"⟩ : MethodName)) hown (mvT hZ (hw _ (List.mem_of_getElem? (i := 1) rfl))) (mvT hZ (hw _ (List.mem_of_getElem? (i := 2) rfl))) (mvT hZ (hw _ (List.mem_of_getElem? (i := 3) rfl))) (mvT hZ (hw _ (List.mem_of_getElem? (i := 4) rfl))) (by decide) (backOf (W := 0) (rm1 l Z a0 hw [] q1 q2 h0 n0 Z0) hZ (hw _ (List.mem_of_getElem? (i := 4) rfl)) (hw _ (List.mem_of_getElem? (i := 3) rfl)) (by decide) (by decide)) (g := (mkF m 112 #[.val (.long q1), .second, .val (.long q2), .second, .val (.long (q1 &&& (4294967295 : Int64))), .second, .val (.long v1), .second, .val (.long (q2 &&& (4294967295 : Int64))), .second, .val (.long v2), .second, .val (.long v3), .second, .val (.long ((q1 &&& (4294967295 : Int64)) * v2)), .second, .val (.long (v1 * (q2 &&& (4294967295 : Int64)))), .second, .val (.long (v1 * v2)), .second, .val (.long v4), .second, .val (.long v5), .second, .val (.long v6), .second] [(.long q2), (.long q1)])) rfl (by rw [hml]; rfl) (argsL := [(.long q1), (.long q2)]) (rest := []) (lenOf pd_0 rfl) rfl (by show 2 * 0 + _ ≤ _; exact Nat.le_of_eq rfl) (hb hby at_112) (fun _ _ => ⟨rfl, e0, (by decide : 0 + 0 ≤ _), (by decide : 0 + 0 ≤ _)⟩)
    dsimp only [Pt.U, Pt.locs, Pt.cells, Pt.slots] at X7 l7 y7 z7 st7 hQ7
    subst l7 y7 z7
    obtain ⟨rfl, N7q, e7⟩ := hQ7
    have N7 := Fr.app N0 N7q
    refine Goes.st (U' := T7.setTop (mkF m 115 #[.val (.long q1), .second, .val (.long q2), .second, .val (.long (q1 &&& (4294967295 : Int64))), .second, .val (.long v1), .second, .val (.long (q2 &&& (4294967295 : Int64))), .second, .val (.long v2), .second, .val (.long v3), .second, .val (.long ((q1 &&& (4294967295 : Int64)) * v2)), .second, .val (.long (v1 * (q2 &&& (4294967295 : Int64)))), .second, .val (.long (v1 * v2)), .second, .val (.long v4), .second, .val (.long v5), .second, .val (.long v6), .second] [(.long (fn1 q1 q2))])) st7 ?_
    refine Goes.st (U' := T7.setTop (mkF m 117 #[.val (.long q1), .second, .val (.long q2), .second, .val (.long (q1 &&& (4294967295 : Int64))), .second, .val (.long v1), .second, .val (.long (q2 &&& (4294967295 : Int64))), .second, .val (.long v2), .second, .val (.long v3), .second, .val (.long ((q1 &&& (4294967295 : Int64)) * v2)), .second, .val (.long (v1 * (q2 &&& (4294967295 : Int64)))), .second, .val (.long (v1 * v2)), .second, .val (.long v4), .second, .val (.long v5), .second, .val (.long v6), .second] [(.long v5), (.long (fn1 q1 q2))])) (fun t k => XS.lload X7.here hx rfl (hb hby at_115) rfl k) ?_
    refine Goes.st (U' := T7.setTop (mkF m 118 #[.val (.long q1), .second, .val (.long q2), .second, .val (.long (q1 &&& (4294967295 : Int64))), .second, .val (.long v1), .second, .val (.long (q2 &&& (4294967295 : Int64))), .second, .val (.long v2), .second, .val (.long v3), .second, .val (.long ((q1 &&& (4294967295 : Int64)) * v2)), .second, .val (.long (v1 * (q2 &&& (4294967295 : Int64)))), .second, .val (.long (v1 * v2)), .second, .val (.long v4), .second, .val (.long v5), .second, .val (.long v6), .second] [(.int (lcmpW (fn1 q1 q2) v5))])) (fun t k => XS.lcmp X7.here hx rfl (hb hby at_117) rfl k) ?_
    rcases Decidable.em ((fn1 q1 q2) = v5) with hc118 | hc118
    · refine Goes.st (U' := T7.setTop (mkF m 121 #[.val (.long q1), .second, .val (.long q2), .second, .val (.long (q1 &&& (4294967295 : Int64))), .second, .val (.long v1), .second, .val (.long (q2 &&& (4294967295 : Int64))), .second, .val (.long v2), .second, .val (.long v3), .second, .val (.long ((q1 &&& (4294967295 : Int64)) * v2)), .second, .val (.long (v1 * (q2 &&& (4294967295 : Int64)))), .second, .val (.long (v1 * v2)), .second, .val (.long v4), .second, .val (.long v5), .second, .val (.long v6), .second] [])) (fun t k => XS.ifNo X7.here hx rfl (hb hby at_118) rfl ((if0 _ _).trans (teq ((lw_eq _ _).mpr hc118)).2) k) ?_
      refine Goes.st (U' := T7.setTop (mkF m 122 #[.val (.long q1), .second, .val (.long q2), .second, .val (.long (q1 &&& (4294967295 : Int64))), .second, .val (.long v1), .second, .val (.long (q2 &&& (4294967295 : Int64))), .second, .val (.long v2), .second, .val (.long v3), .second, .val (.long ((q1 &&& (4294967295 : Int64)) * v2)), .second, .val (.long (v1 * (q2 &&& (4294967295 : Int64)))), .second, .val (.long (v1 * v2)), .second, .val (.long v4), .second, .val (.long v5), .second, .val (.long v6), .second] [(.int (1 : Int32))])) (fun t k => XS.iconst X7.here hx rfl (hb hby at_121) k) ?_
      refine Goes.st (U' := T7.setTop (mkF m 126 #[.val (.long q1), .second, .val (.long q2), .second, .val (.long (q1 &&& (4294967295 : Int64))), .second, .val (.long v1), .second, .val (.long (q2 &&& (4294967295 : Int64))), .second, .val (.long v2), .second, .val (.long v3), .second, .val (.long ((q1 &&& (4294967295 : Int64)) * v2)), .second, .val (.long (v1 * (q2 &&& (4294967295 : Int64)))), .second, .val (.long (v1 * v2)), .second, .val (.long v4), .second, .val (.long v5), .second, .val (.long v6), .second] [(.int (1 : Int32))])) (fun t k => XS.goto X7.here hx rfl (pc0 := 122) (pc' := 126) rfl (hb hby at_122) (by decide) (by decide) k) ?_
      refine Goes.retZ X7 hx (BodyLoose.notSynchronized Bd) Bd.returns (hb hby at_126) rfl (by decide) (by decide) ?_
      show Q0 Z q1 q2 h0 n0 _ T7.heap _
      rw [e7]
      exact ⟨(congrArg some (congrArg _ (by subst hv6; subst hv5; subst hv4; subst hv3; subst hv2; subst hv1; unfold fn0; dsimp only; rw [if_pos hc107]; rw [if_pos hc118]))), N7, rfl⟩
    · refine Goes.st (U' := T7.setTop (mkF m 125 #[.val (.long q1), .second, .val (.long q2), .second, .val (.long (q1 &&& (4294967295 : Int64))), .second, .val (.long v1), .second, .val (.long (q2 &&& (4294967295 : Int64))), .second, .val (.long v2), .second, .val (.long v3), .second, .val (.long ((q1 &&& (4294967295 : Int64)) * v2)), .second, .val (.long (v1 * (q2 &&& (4294967295 : Int64)))), .second, .val (.long (v1 * v2)), .second, .val (.long v4), .second, .val (.long v5), .second, .val (.long v6), .second] [])) (fun t k => XS.ifYes X7.here hx rfl (pc0 := 118) (pc' := 125) rfl (hb hby at_118) rfl ((if0 _ _).trans (feq (fun q => hc118 ((lw_eq _ _).mp q))).2) (by decide) (by decide) k) ?_
      refine Goes.st (U' := T7.setTop (mkF m 126 #[.val (.long q1), .second, .val (.long q2), .second, .val (.long (q1 &&& (4294967295 : Int64))), .second, .val (.long v1), .second, .val (.long (q2 &&& (4294967295 : Int64))), .second, .val (.long v2), .second, .val (.long v3), .second, .val (.long ((q1 &&& (4294967295 : Int64)) * v2)), .second, .val (.long (v1 * (q2 &&& (4294967295 : Int64)))), .second, .val (.long (v1 * v2)), .second, .val (.long v4), .second, .val (.long v5), .second, .val (.long v6), .second] [(.int (0 : Int32))])) (fun t k => XS.iconst X7.here hx rfl (hb hby at_125) k) ?_
      refine Goes.retZ X7 hx (BodyLoose.notSynchronized Bd) Bd.returns (hb hby at_126) rfl (by decide) (by decide) ?_
      show Q0 Z q1 q2 h0 n0 _ T7.heap _
      rw [e7]
      exact ⟨(congrArg some (congrArg _ (by subst hv6; subst hv5; subst hv4; subst hv3; subst hv2; subst hv1; unfold fn0; dsimp only; rw [if_pos hc107]; rw [if_neg hc118]))), N7, rfl⟩
  · refine Goes.st (U' := s₁.setTop (mkF m 125 #[.val (.long q1), .second, .val (.long q2), .second, .val (.long (q1 &&& (4294967295 : Int64))), .second, .val (.long v1), .second, .val (.long (q2 &&& (4294967295 : Int64))), .second, .val (.long v2), .second, .val (.long v3), .second, .val (.long ((q1 &&& (4294967295 : Int64)) * v2)), .second, .val (.long (v1 * (q2 &&& (4294967295 : Int64)))), .second, .val (.long (v1 * v2)), .second, .val (.long v4), .second, .val (.long v5), .second, .val (.long v6), .second] [])) (fun t k => XS.ifYes X0.here hx rfl (pc0 := 107) (pc' := 125) rfl (hb hby at_107) rfl ((if0 _ _).trans (feq (fun q => hc107 ((lw_eq _ _).mp q))).2) (by decide) (by decide) k) ?_
    refine Goes.st (U' := s₁.setTop (mkF m 126 #[.val (.long q1), .second, .val (.long q2), .second, .val (.long (q1 &&& (4294967295 : Int64))), .second, .val (.long v1), .second, .val (.long (q2 &&& (4294967295 : Int64))), .second, .val (.long v2), .second, .val (.long v3), .second, .val (.long ((q1 &&& (4294967295 : Int64)) * v2)), .second, .val (.long (v1 * (q2 &&& (4294967295 : Int64)))), .second, .val (.long (v1 * v2)), .second, .val (.long v4), .second, .val (.long v5), .second, .val (.long v6), .second] [(.int (0 : Int32))])) (fun t k => XS.iconst X0.here hx rfl (hb hby at_125) k) ?_
    refine Goes.retZ X0 hx (BodyLoose.notSynchronized Bd) Bd.returns (hb hby at_126) rfl (by decide) (by decide) ?_
    show Q0 Z q1 q2 h0 n0 _ s₁.heap _
    rw [e0]
    exact ⟨(congrArg some (congrArg _ (by subst hv6; subst hv5; subst hv4; subst hv3; subst hv2; subst hv1; unfold fn0; dsimp only; rw [if_neg hc107]))), N0, rfl⟩
theorem own_exp (x1 x2 y1 y2 : Int) : (4294967296 * x1 + x2) * (4294967296 * y1 + y2) = 18446744073709551616 * (x1 * y1) + 4294967296 * (x1 * y2) + 4294967296 * (x2 * y1) + x2 * y2 := by
  have e1 : 4294967296 * x1 * (4294967296 * y1) = 18446744073709551616 * (x1 * y1) := by
    rw [Int.mul_assoc, Int.mul_left_comm x1, ← Int.mul_assoc]; rfl
  have e2 : 4294967296 * x1 * y2 = 4294967296 * (x1 * y2) := Int.mul_assoc _ _ _
  have e3 : x2 * (4294967296 * y1) = 4294967296 * (x2 * y1) := Int.mul_left_comm _ _ _
  rw [Int.add_mul, Int.mul_add, Int.mul_add, e1, e2, e3]
  omega
/-- the high word of the signed product, as Math.multiplyHigh reckons it -/
theorem own_hi (a b : Int64) : (fn2 a b).toInt = (a.toInt * b.toInt) / 18446744073709551616 := by
  unfold fn2
  dsimp only
  have hx1 := c_lshr a (32 : Int32) 32 (by decide)
  have hy1 := c_lshr b (32 : Int32) 32 (by decide)
  have hx2 := c_maskL a 4294967295 32 (by decide) (by decide)
  have hy2 := c_maskL b 4294967295 32 (by decide) (by decide)
  have ra := rng64 a
  have rb := rng64 b
  generalize (a >>> ((32 : Int32) &&& 0x3f).toInt64) = X1 at *
  generalize (b >>> ((32 : Int32) &&& 0x3f).toInt64) = Y1 at *
  generalize (a &&& (4294967295 : Int64)) = X2 at *
  generalize (b &&& (4294967295 : Int64)) = Y2 at *
  have ea : a.toInt = 4294967296 * X1.toInt + X2.toInt := by omega
  have eb : b.toInt = 4294967296 * Y1.toInt + Y2.toInt := by omega
  have ep := own_exp X1.toInt X2.toInt Y1.toInt Y2.toInt
  rw [← ea, ← eb] at ep
  have bx1 : -2147483648 ≤ X1.toInt ∧ X1.toInt ≤ 2147483647 := by omega
  have by1 : -2147483648 ≤ Y1.toInt ∧ Y1.toInt ≤ 2147483647 := by omega
  have bx2 : 0 ≤ X2.toInt ∧ X2.toInt ≤ 4294967295 := by omega
  have by2 : 0 ≤ Y2.toInt ∧ Y2.toInt ≤ 4294967295 := by omega
  have m11 := mc bx1.1 bx1.2 by1.1 by1.2
  have m12 := mc bx1.1 bx1.2 by2.1 by2.2
  have m21 := mc bx2.1 bx2.2 by1.1 by1.2
  have m22 := mc bx2.1 bx2.2 by2.1 by2.2
  have z1 := c_lmul X2 Y2
  have z2 := c_lushr (X2 * Y2) (32 : Int32) 32 (by decide) (by decide)
  have t1 := c_lmul X1 Y2
  have t2 := rng64 (X1 * Y2)
  have u1 := c_lmul X2 Y1
  have u2 := rng64 (X2 * Y1)
  have v1 := c_lmul X1 Y1
  have v2 := rng64 (X1 * Y1)
  generalize X1.toInt * Y1.toInt = p11 at *
  generalize X1.toInt * Y2.toInt = p12 at *
  generalize X2.toInt * Y1.toInt = p21 at *
  generalize X2.toInt * Y2.toInt = p22 at *
  have b22 : 0 ≤ p22 ∧ p22 ≤ 18446744065119617025 := by omega
  have b12 : -9223372034707292160 ≤ p12 ∧ p12 ≤ 9223372030412324865 := by omega
  have b21 : -9223372034707292160 ≤ p21 ∧ p21 ≤ 9223372030412324865 := by omega
  have b11 : -4611686018427387904 ≤ p11 ∧ p11 ≤ 4611686018427387904 := by omega
  clear m11 m12 m21 m22
  have k12 : (X1 * Y2).toInt = p12 := by omega
  have k21 : (X2 * Y1).toInt = p21 := by omega
  have k11 : (X1 * Y1).toInt = p11 := by omega
  generalize (((X2 * Y2).toUInt64 >>> ((32 : Int32) &&& 0x3f).toInt64.toUInt64).toInt64) = W at *
  have kW : W.toInt = p22 / 4294967296 := by omega
  clear z1 z2 t1 t2 u1 u2 v1 v2
  have t3 := c_ladd (X1 * Y2) W
  have t4 := rng64 (X1 * Y2 + W)
  have t5 := c_lshr (X1 * Y2 + W) (32 : Int32) 32 (by decide)
  have t6 := c_maskL (X1 * Y2 + W) 4294967295 32 (by decide) (by decide)
  generalize ((X1 * Y2 + W) >>> ((32 : Int32) &&& 0x3f).toInt64) = T1 at *
  generalize ((X1 * Y2 + W) &&& (4294967295 : Int64)) = T0 at *
  have kT : (X1 * Y2 + W).toInt = p12 + p22 / 4294967296 := by omega
  have u3 := c_ladd T0 (X2 * Y1)
  have u4 := rng64 (T0 + X2 * Y1)
  have u5 := c_lshr (T0 + X2 * Y1) (32 : Int32) 32 (by decide)
  generalize ((T0 + X2 * Y1) >>> ((32 : Int32) &&& 0x3f).toInt64) = Z1 at *
  have kU : (T0 + X2 * Y1).toInt = T0.toInt + p21 := by omega
  have w1 := c_ladd (X1 * Y1) T1
  have w2 := rng64 (X1 * Y1 + T1)
  have w3 := c_ladd (X1 * Y1 + T1) Z1
  have w4 := rng64 (X1 * Y1 + T1 + Z1)
  have k1 : (X1 * Y1 + T1).toInt = p11 + T1.toInt := by omega
  have k2 : (X1 * Y1 + T1 + Z1).toInt = p11 + T1.toInt + Z1.toInt := by omega
  rw [ep]
  omega
theorem own_sgn (a b : Int64) : ((a >>> ((63 : Int32) &&& 0x3f).toInt64) &&& b) = if a.toInt < 0 then b else 0 := by
  have h := c_lshr a (63 : Int32) 63 (by decide)
  have ra := rng64 a
  by_cases c : a.toInt < 0
  · rw [if_pos c]
    have e : (a >>> ((63 : Int32) &&& 0x3f).toInt64) = -1 := by
      rw [← Int64.toInt_inj, h]
      have : (-1 : Int64).toInt = -1 := rfl
      omega
    rw [e]
    apply Int64.toBitVec_inj.mp
    rw [Int64.toBitVec_and]
    have : (-1 : Int64).toBitVec = BitVec.allOnes 64 := rfl
    rw [this, BitVec.allOnes_and]
  · rw [if_neg c]
    have e : (a >>> ((63 : Int32) &&& 0x3f).toInt64) = 0 := by
      rw [← Int64.toInt_inj, h]
      have : (0 : Int64).toInt = 0 := rfl
      omega
    rw [e, Int64.zero_and]
theorem own_ph (a b : Int64) : ((fn1 a b).toInt - ((a.toInt % 18446744073709551616) * (b.toInt % 18446744073709551616)) / 18446744073709551616) % 18446744073709551616 = 0 := by
  unfold fn1
  rw [own_sgn, own_sgn]
  have h := own_hi a b
  have ra := rng64 a
  have rb := rng64 b
  have e0 : (0 : Int64).toInt = 0 := rfl
  have s1 := c_ladd (fn2 a b) (if a.toInt < 0 then b else 0)
  have s2 := c_ladd (fn2 a b + (if a.toInt < 0 then b else 0)) (if b.toInt < 0 then a else 0)
  by_cases ca : a.toInt < 0 <;> by_cases cb : b.toInt < 0
  · rw [if_pos ca] at *
    rw [if_pos cb] at *
    have ea : a.toInt % 18446744073709551616 = a.toInt + 18446744073709551616 := by omega
    have eb : b.toInt % 18446744073709551616 = b.toInt + 18446744073709551616 := by omega
    rw [ea, eb, Int.add_mul, Int.mul_add, Int.mul_add]
    generalize a.toInt * b.toInt = q at *
    omega
  · rw [if_pos ca] at *
    rw [if_neg cb] at *
    have ea : a.toInt % 18446744073709551616 = a.toInt + 18446744073709551616 := by omega
    have eb : b.toInt % 18446744073709551616 = b.toInt := by omega
    rw [ea, eb, Int.add_mul]
    generalize a.toInt * b.toInt = q at *
    omega
  · rw [if_neg ca] at *
    rw [if_pos cb] at *
    have ea : a.toInt % 18446744073709551616 = a.toInt := by omega
    have eb : b.toInt % 18446744073709551616 = b.toInt + 18446744073709551616 := by omega
    rw [ea, eb, Int.mul_add]
    generalize a.toInt * b.toInt = q at *
    omega
  · rw [if_neg ca] at *
    rw [if_neg cb] at *
    have ea : a.toInt % 18446744073709551616 = a.toInt := by omega
    have eb : b.toInt % 18446744073709551616 = b.toInt := by omega
    rw [ea, eb]
    generalize a.toInt * b.toInt = q at *
    omega
theorem own_a {m p l : Int} (h1 : (m - p) % 18446744073709551616 = 0) (h2 : l = (m % 18446744073709551616) / ((2 ^ 32 : Nat) : Int)) (hb : 0 ≤ p ∧ p ≤ 18446744065119617025) : l = p / 4294967296 := by omega
theorem own_b {m p l : Int} (h1 : (m - p) % 18446744073709551616 = 0) (h2 : l = m % ((2 ^ 32 : Nat) : Int)) : l = p % 4294967296 := by omega
theorem own_c {x y u lz ma p12 p21 p22 : Int} (h1 : (x - (lz + ma)) % 18446744073709551616 = 0) (h2 : (y - (x + u)) % 18446744073709551616 = 0) (h3 : (u - p12) % 18446744073709551616 = 0) (j1 : lz = p22 / 4294967296) (j3 : ma = p21 % 4294967296) (b22 : 0 ≤ p22 ∧ p22 ≤ 18446744065119617025) (b21 : 0 ≤ p21 ∧ p21 ≤ 18446744065119617025) (b12 : 0 ≤ p12 ∧ p12 ≤ 18446744065119617025) : y % 18446744073709551616 = p22 / 4294967296 + p21 % 4294967296 + p12 := by omega
theorem own_e {c r : Int} (h : (c - r * ((2 ^ 32 : Nat) : Int)) % 18446744073709551616 = 0) : c % 4294967296 = 0 := by omega
theorem own_f {m l : Int} (h2 : l = m % ((2 ^ 32 : Nat) : Int)) : 0 ≤ l ∧ l < 4294967296 := by omega
theorem own_m {x y p : Int} (h : 0 * y + x * 0 - 0 * 0 ≤ p ∧ 4294967295 * y + x * 4294967295 - 4294967295 * 4294967295 ≤ p ∧ p ≤ 4294967295 * y + x * 0 - 4294967295 * 0 ∧ p ≤ 0 * y + x * 4294967295 - 0 * 4294967295) (hx : 0 ≤ x ∧ x ≤ 4294967295) (hy : 0 ≤ y ∧ y ≤ 4294967295) : 0 ≤ p ∧ p ≤ 18446744065119617025 := by omega
theorem own_g {o cs mz cr ab pab p11 p12 p21 p22 : Int} (g1 : (o - (cs + mz)) % 18446744073709551616 = 0) (c6 : (cs - cr * ((2 ^ 32 : Nat) : Int)) % 18446744073709551616 = 0) (hab : (ab - pab) % 18446744073709551616 = 0) (eab : (pab - (18446744073709551616 * p11 + 4294967296 * p12 + 4294967296 * p21 + p22)) % 18446744073709551616 = 0) (j4 : cr % 18446744073709551616 = p22 / 4294967296 + p21 % 4294967296 + p12) (j7 : mz = p22 % 4294967296)
    (r1 : -9223372036854775808 ≤ o ∧ o < 9223372036854775808) (r2 : -9223372036854775808 ≤ ab ∧ ab < 9223372036854775808) : o = ab := by omega
theorem own_h {x y la cl hh f p11 p12 p21 p22 : Int} (f1 : (x - (la + cl)) % 18446744073709551616 = 0) (f3 : (y - (x + hh)) % 18446744073709551616 = 0) (d1 : (hh - p11) % 18446744073709551616 = 0) (hp : (f - (18446744073709551616 * p11 + 4294967296 * p12 + 4294967296 * p21 + p22) / 18446744073709551616) % 18446744073709551616 = 0) (j2 : la = p21 / 4294967296) (j5 : cl = (p22 / 4294967296 + p21 % 4294967296 + p12) / 4294967296)
    (r1 : -9223372036854775808 ≤ y ∧ y < 9223372036854775808) (r2 : -9223372036854775808 ≤ f ∧ f < 9223372036854775808) : f = y := by
  have j6 : (18446744073709551616 * p11 + 4294967296 * p12 + 4294967296 * p21 + p22) / 18446744073709551616 = p11 + p21 / 4294967296 + (p22 / 4294967296 + p21 % 4294967296 + p12) / 4294967296 := by omega
  rw [j6] at hp
  omega
theorem plain (a b : Int64) : fn0 a b = 1 := by
  unfold fn0
  dsimp only
  have hx1 := c_lushr a (32 : Int32) 32 (by decide) (by decide)
  have hy1 := c_lushr b (32 : Int32) 32 (by decide) (by decide)
  have hx2 := c_maskL a 4294967295 32 (by decide) (by decide)
  have hy2 := c_maskL b 4294967295 32 (by decide) (by decide)
  have ra := rng64 a
  have rb := rng64 b
  have hp := own_ph a b
  have rf := rng64 (fn1 a b)
  have hab := c_lmul a b
  have rab := rng64 (a * b)
  generalize fn1 a b = F at *
  generalize ((a.toUInt64 >>> ((32 : Int32) &&& 0x3f).toInt64.toUInt64).toInt64) = X1 at *
  generalize ((b.toUInt64 >>> ((32 : Int32) &&& 0x3f).toInt64.toUInt64).toInt64) = Y1 at *
  generalize (a &&& (4294967295 : Int64)) = X2 at *
  generalize (b &&& (4294967295 : Int64)) = Y2 at *
  have ea : a.toInt % 18446744073709551616 = 4294967296 * X1.toInt + X2.toInt := by omega
  have eb : b.toInt % 18446744073709551616 = 4294967296 * Y1.toInt + Y2.toInt := by omega
  have bx1 : 0 ≤ X1.toInt ∧ X1.toInt ≤ 4294967295 := by omega
  have by1 : 0 ≤ Y1.toInt ∧ Y1.toInt ≤ 4294967295 := by omega
  have bx2 : 0 ≤ X2.toInt ∧ X2.toInt ≤ 4294967295 := by omega
  have by2 : 0 ≤ Y2.toInt ∧ Y2.toInt ≤ 4294967295 := by omega
  have eab : (a.toInt * b.toInt - (a.toInt % 18446744073709551616) * (b.toInt % 18446744073709551616)) % 18446744073709551616 = 0 := by
    have q : (a.toInt * b.toInt) % 18446744073709551616 = ((a.toInt % 18446744073709551616) * (b.toInt % 18446744073709551616)) % 18446744073709551616 := Int.mul_emod _ _ _
    generalize a.toInt * b.toInt = u at *
    generalize (a.toInt % 18446744073709551616) * (b.toInt % 18446744073709551616) = w at *
    omega
  have ep := own_exp X1.toInt X2.toInt Y1.toInt Y2.toInt
  rw [ea, eb, ep] at hp eab
  have m11 := mc bx1.1 bx1.2 by1.1 by1.2
  have m12 := mc bx1.1 bx1.2 by2.1 by2.2
  have m21 := mc bx2.1 bx2.2 by1.1 by1.2
  have m22 := mc bx2.1 bx2.2 by2.1 by2.2
  have z1 := c_lmul X2 Y2
  have z2 := c_lushr (X2 * Y2) (32 : Int32) 32 (by decide) (by decide)
  have z3 := rng64 (X2 * Y2)
  have z4 := c_maskL (X2 * Y2) 4294967295 32 (by decide) (by decide)
  have a1 := c_lmul X2 Y1
  have a2 := c_lushr (X2 * Y1) (32 : Int32) 32 (by decide) (by decide)
  have a3 := rng64 (X2 * Y1)
  have a4 := c_maskL (X2 * Y1) 4294967295 32 (by decide) (by decide)
  have b1 := c_lmul X1 Y2
  have b3 := rng64 (X1 * Y2)
  have d1 := c_lmul X1 Y1
  have d3 := rng64 (X1 * Y1)
  generalize (((X2 * Y2).toUInt64 >>> ((32 : Int32) &&& 0x3f).toInt64.toUInt64).toInt64) = LZ at *
  generalize ((X2 * Y2) &&& (4294967295 : Int64)) = MZ at *
  generalize (((X2 * Y1).toUInt64 >>> ((32 : Int32) &&& 0x3f).toInt64.toUInt64).toInt64) = LA at *
  generalize ((X2 * Y1) &&& (4294967295 : Int64)) = MA at *
  generalize X1 * Y2 = HL at *
  generalize X1 * Y1 = HH at *
  have c1 := c_ladd LZ MA
  have c2 := rng64 (LZ + MA)
  have c3 := c_ladd (LZ + MA) HL
  have c4 := rng64 (LZ + MA + HL)
  have c5 := c_lushr (LZ + MA + HL) (32 : Int32) 32 (by decide) (by decide)
  have c6 := c_lshl (LZ + MA + HL) (32 : Int32) 32 (by decide)
  have c7 := rng64 ((LZ + MA + HL) <<< ((32 : Int32) &&& 0x3f).toInt64)
  generalize LZ + MA + HL = CR at *
  generalize ((CR.toUInt64 >>> ((32 : Int32) &&& 0x3f).toInt64.toUInt64).toInt64) = CL at *
  generalize (CR <<< ((32 : Int32) &&& 0x3f).toInt64) = CS at *
  have f1 := c_ladd LA CL
  have f2 := rng64 (LA + CL)
  have f3 := c_ladd (LA + CL) HH
  have f4 := rng64 (LA + CL + HH)
  have g1 := c_orL CS MZ 32 (by decide) 4294967296 (by decide) (own_e c6) (own_f z4).1 (own_f z4).2
  have g2 := rng64 (CS ||| MZ)
  generalize X1.toInt * Y1.toInt = p11 at *
  generalize X1.toInt * Y2.toInt = p12 at *
  generalize X2.toInt * Y1.toInt = p21 at *
  generalize X2.toInt * Y2.toInt = p22 at *
  generalize a.toInt * b.toInt = pab at *
  have b22 := own_m m22 bx2 by2
  have b12 := own_m m12 bx1 by2
  have b21 := own_m m21 bx2 by1
  have b11 := own_m m11 bx1 by1
  have j1 := own_a z1 z2 b22
  have j2 := own_a a1 a2 b21
  have j3 := own_b a1 a4
  have j4 := own_c c1 c3 b1 j1 j3 b22 b21 b12
  have j5 : CL.toInt = (p22 / 4294967296 + p21 % 4294967296 + p12) / 4294967296 := by rw [c5, j4]; rfl
  have j7 := own_b z1 z4
  have k1 : (CS ||| MZ) = a * b := by
    rw [← Int64.toInt_inj]
    exact own_g g1 c6 hab eab j4 j7 g2 rab
  have k2 : F = LA + CL + HH := by
    rw [← Int64.toInt_inj]
    exact own_h f1 f3 d1 hp j2 j5 f4 rf
  rw [if_pos k1, if_pos k2]
set_option maxRecDepth 65536 in
set_option maxHeartbeats 40000000 in
theorem comes_1 {Post : Tables → Env → Array Value → State → Outcome → State → Prop} (hpost : ∀ tb e args s v u, (limb_1_1.after args s (.returned v) u = true ∧ limb_1_2.after args s (.returned v) u = true ∧ True) → FrameEnd s (.returned v) u (Jvm.fieldLocs frame_1_writes args s ++ Jvm.arrayLocs frame_1_arrays args s ++ Jvm.staticLocs frame_1_statics s) 0 0 → Post tb e args s (.returned v) u) :
    ArmFor flags0 classFile x code maxLocals ret World_1 tables_1 room_1 Calls_1 rest_1 Pre_1 Post := by
  intro l hfl _ _ p e ha hc hk s m args below hf hA hF happ hP
  obtain ⟨hcalls, hrest, hpre⟩ := hP
  obtain ⟨-, -, -, hnamed, -, -, -, hat⟩ := (Spec.applies_iff hf).mp happ
  obtain ⟨hg, hn⟩ := and_e (Cond.before_iff.mp (show (Jvm.Cond.and given_1 narrow_1).before args s = true from hpre))
  obtain ⟨gg1, gg2⟩ := and_e hg
  obtain ⟨gg3, gg4⟩ := and_e gg2
  obtain ⟨w0, w1, rfl⟩ : ∃ w0 w1 : Value, args = #[w0, w1] := by
    have hs : args.size = 2 := by simpa [Cond.value, given_1] using gg1
    obtain ⟨L⟩ := args
    match L, hs with
    | [w0, w1], _ => exact ⟨w0, w1, rfl⟩
  have hw := fun d (hd : d ∈ tables_1) => atoms_spec (ws := Jvm.Cond.code x code maxLocals ret :: tables_1) hat d (List.mem_cons_of_mem _ hd)
  obtain ⟨i0, ei0⟩ := isL_v gg3
  obtain rfl : w0 = (.long i0) := Option.some.inj ei0
  obtain ⟨i1, ei1⟩ := isL_v gg4
  obtain rfl : w1 = (.long i1) := Option.some.inj ei1
  obtain ⟨n, o, h1, h2, h3, v, L, rfl, hQ, hq⟩ := rm0 l s _ hw tables_1 i0 i1 s.heap s.heap.size (Nat.le_refl _) p e ha hc hk s m _ below hf ((Spec.applies_iff_loose hf).mp happ).1 ⟨rfl, State.Warmed39.refl s, rfl⟩ trivial
  obtain ⟨hv, N, -⟩ := hQ
  rw [plain] at hv
  subst hv
  exact ⟨n, _, h1, h2, h3, hpost _ _ _ _ _ _ ⟨Cond.after_iff.mpr rfl, Cond.after_iff.mpr (eq_i res_at (Term.int_eval (1)) rfl), trivial⟩ ⟨hq.1, hq.2.1, (hq.2.2.sift fun y hy => Or.inr (N y hy)).mono (by decide) (by decide)⟩⟩
theorem main_1_1 : Claimed_1_1 := comes_1 fun _ _ _ _ _ _ h hF => ⟨h.1, hF⟩
theorem main_1_2 : Claimed_1_2 := comes_1 fun _ _ _ _ _ _ h hF => ⟨h.2.1, hF⟩
end Jvm.Pilot.@@N@@
namespace Jvm.Pilot.@@N@@
open Jvm Jvm.ClassFile Sem Op Lib Jvm.Free Jvm.Stand Jvm.Pilot.@@N@@.Jvm.D
/-! MADE BY PROGRAM (witnessworld.py) out of the Statement's table words and the real class files: 11 classes; the members and pool entries that the words name. The judged class is class 1, her method 1. -/
namespace start1
open Jvm.ClassFile
def u (s : String) : CpInfo := .utf8 (stringToUtf16 s)
/-- a pool by its gaps: so many unusable entries, then the entry; so many at the end -/
def gap : Nat → List CpInfo → List CpInfo
  | 0, r => r
  | n + 1, r => .unusable :: gap n r
def poolList (es : List (Nat × CpInfo)) (last : Nat) : List CpInfo := es.foldr (fun e r => gap e.1 (e.2 :: r)) (gap last [])
def pool (es : List (Nat × CpInfo)) (last : Nat) : Array CpInfo := ⟨poolList es last⟩
def fileOf (pool : Array CpInfo) (this : Nat) (attrs : Array Attribute := #[]) (ms : Array MethodInfo := #[]) (fl : Nat := 33) (sup : Nat := 0) (ifs : Array Nat := #[]) (fds : Array FieldInfo := #[]) : ClassFile where
  minorVersion := 0
  majorVersion := 65
  constantPool := pool
  accessFlags := fl
  thisClass := this
  superClass := sup
  interfaces := ifs
  fields := fds
  methods := ms
  attributes := attrs
def plain (name : String) (sup : Option ClassId) : Class where
  name := name
  kind := .ordinary
  loader := none
  accessFlags := 33
  super := sup
  interfaces := #[]
  cf := none
  fields := #[]
  methods := #[]
  instanceTypes := #[]
  staticTypes := #[]
  resolved := #[]
  callSites := []
  init := .initialized
  statics := none
  mirror := none

def pool0 : Array CpInfo := pool [(5, u "<init>"), (0, u "()V"), (1, .class_ 10), (1, u "java/lang/Object")] 113

def k0m0 : Method := { name := "<init>", desc := "()V", sig := { parameters := [], returnType := none }, accessFlags := 1, code := none }
/-- java/lang/Object -/
def k0 : Class := { plain "java/lang/Object" none with
  accessFlags := 33
  interfaces := #[]
  cf := some (fileOf pool0 8 #[] #[{ accessFlags := 1, nameIndex := 5, descriptorIndex := 6, attributes := #[] }] 33 0 #[] #[])
  fields := #[]
  methods := #[k0m0]
  instanceTypes := #[]
  staticTypes := #[]
  resolved := Array.replicate 124 none
  statics := none }

def pool1 : Array CpInfo := pool [(2, .class_ 4), (1, u "java/lang/Object"), (0, u "<init>"), (0, u "()V"), (0, .long 4294967295), (1, .methodref 10 11), (0, .class_ 12), (0, .nameAndType 13 14), (0, u "reelwright/hash/Xxh3Core"), (0, u "productHigh"), (0, u "(JJ)J"), (0, .class_ 16), (0, u "reelwright/hash/Xxh3CoreProductHighPinLaw"), (2, u "law"), (0, u "(JJ)Z")] 3

def k1m0 : Method := { name := "<init>", desc := "()V", sig := { parameters := [], returnType := none }, accessFlags := 2, code := none }
def k1c1 : Code := { maxStack := 6, maxLocals := 26, code := code, exceptionTable := #[], attributes := #[] }
def k1m1 : Method := { name := "law", desc := "(JJ)Z", sig := { parameters := [.long, .long], returnType := some .boolean }, accessFlags := 9, code := some k1c1 }
/-- reelwright/hash/Xxh3CoreProductHighPinLaw -/
def k1 : Class := { plain "reelwright/hash/Xxh3CoreProductHighPinLaw" (some 0) with
  accessFlags := 49
  interfaces := #[]
  cf := some (fileOf pool1 15 #[] #[{ accessFlags := 2, nameIndex := 5, descriptorIndex := 6, attributes := #[] }, { accessFlags := 9, nameIndex := 19, descriptorIndex := 20, attributes := #[] }] 49 2 #[] #[])
  fields := #[]
  methods := #[k1m0, k1m1]
  instanceTypes := #[]
  staticTypes := #[]
  resolved := Array.replicate 24 none
  statics := none }

def pool2 : Array CpInfo := pool [(1, .class_ 2), (0, u "reelwright/hash/Hasher"), (0, .class_ 4), (0, u "java/lang/Object")] 6

/-- reelwright/hash/Hasher -/
def k2 : Class := { plain "reelwright/hash/Hasher" (some 0) with
  accessFlags := 1537
  interfaces := #[]
  cf := some (fileOf pool2 1 #[] #[] 1537 3 #[] #[])
  fields := #[]
  methods := #[]
  instanceTypes := #[]
  staticTypes := #[]
  resolved := Array.replicate 11 none
  statics := none }

def pool3 : Array CpInfo := pool [(1, .class_ 2), (0, u "reelwright/hash/Xxh3Core"), (3, .class_ 8), (1, u "java/lang/Object"), (0, u "<init>"), (0, u "()V"), (18, u "accumulators"), (0, u "[J"), (18, u "held"), (0, u "Ljava/nio/ByteBuffer;"), (2, u "lastTaken"), (13, u "length"), (0, u "J"), (12, .class_ 83), (1, u "java/lang/Math"), (23, u "stripesInBlock"), (0, u "I"), (2, u "BLOCK_KEYS"), (22, u "SCRAMBLE_KEYS"), (26, u "LAST_STRIPE_KEYS"), (2, u "SECRET"), (15, u "(JJ)J"), (3, .methodref 81 185), (0, .nameAndType 186 180), (0, u "multiplyHigh"), (2, u "productHigh"), (22, .class_ 213), (0, u "reelwright/hash/Hasher"), (0, u "PRIME32_1"), (1, u "PRIME32_2"), (0, u "PRIME32_3"), (0, u "PRIME64_1"), (0, u "PRIME64_2"), (0, u "PRIME64_3"), (0, u "PRIME64_4"), (0, u "PRIME64_5"), (0, u "PRIME_MX1"), (0, u "PRIME_MX2"), (2, u "SHORT_MAX"), (1, u "MID_MIN"), (1, u "SECRET_LENGTH"), (1, u "MID_SECRET_START"), (1, u "MID_SECRET_LAST"), (1, u "MERGE_SECRET_START"), (1, u "STRIPE"), (1, u "LANES"), (1, u "STRIPES_PER_BLOCK"), (1, u "SCRAMBLE_SECRET"), (0, u "LAST_STRIPE_SECRET"), (1, u "HELD")] 23

def k3m0 : Method := { name := "<init>", desc := "()V", sig := { parameters := [], returnType := none }, accessFlags := 0, code := none }
def k3c1 : Code := { maxStack := 6, maxLocals := 4, code := prog_17_method_16_code, exceptionTable := #[], attributes := #[] }
def k3m1 : Method := { name := "productHigh", desc := "(JJ)J", sig := { parameters := [.long, .long], returnType := some .long }, accessFlags := 8, code := some k3c1 }
/-- reelwright/hash/Xxh3Core -/
def k3 : Class := { plain "reelwright/hash/Xxh3Core" (some 0) with
  accessFlags := 1056
  interfaces := #[2]
  cf := some (fileOf pool3 1 #[] #[{ accessFlags := 0, nameIndex := 9, descriptorIndex := 10, attributes := #[] }, { accessFlags := 8, nameIndex := 189, descriptorIndex := 180, attributes := #[] }] 1056 6 #[212] #[{ accessFlags := 24, nameIndex := 214, descriptorIndex := 68, attributes := #[] }, { accessFlags := 24, nameIndex := 216, descriptorIndex := 68, attributes := #[] }, { accessFlags := 24, nameIndex := 217, descriptorIndex := 68, attributes := #[] }, { accessFlags := 24, nameIndex := 218, descriptorIndex := 68, attributes := #[] }, { accessFlags := 24, nameIndex := 219, descriptorIndex := 68, attributes := #[] }, { accessFlags := 24, nameIndex := 220, descriptorIndex := 68, attributes := #[] }, { accessFlags := 24, nameIndex := 221, descriptorIndex := 68, attributes := #[] }, { accessFlags := 24, nameIndex := 222, descriptorIndex := 68, attributes := #[] }, { accessFlags := 24, nameIndex := 223, descriptorIndex := 68, attributes := #[] }, { accessFlags := 24, nameIndex := 224, descriptorIndex := 68, attributes := #[] }, { accessFlags := 24, nameIndex := 227, descriptorIndex := 108, attributes := #[] }, { accessFlags := 24, nameIndex := 229, descriptorIndex := 108, attributes := #[] }, { accessFlags := 24, nameIndex := 231, descriptorIndex := 108, attributes := #[] }, { accessFlags := 24, nameIndex := 233, descriptorIndex := 108, attributes := #[] }, { accessFlags := 24, nameIndex := 235, descriptorIndex := 108, attributes := #[] }, { accessFlags := 24, nameIndex := 237, descriptorIndex := 108, attributes := #[] }, { accessFlags := 26, nameIndex := 239, descriptorIndex := 108, attributes := #[] }, { accessFlags := 26, nameIndex := 241, descriptorIndex := 108, attributes := #[] }, { accessFlags := 26, nameIndex := 243, descriptorIndex := 108, attributes := #[] }, { accessFlags := 26, nameIndex := 245, descriptorIndex := 108, attributes := #[] }, { accessFlags := 26, nameIndex := 246, descriptorIndex := 108, attributes := #[] }, { accessFlags := 26, nameIndex := 248, descriptorIndex := 108, attributes := #[] }, { accessFlags := 26, nameIndex := 164, descriptorIndex := 50, attributes := #[] }, { accessFlags := 26, nameIndex := 111, descriptorIndex := 30, attributes := #[] }, { accessFlags := 26, nameIndex := 161, descriptorIndex := 30, attributes := #[] }, { accessFlags := 26, nameIndex := 134, descriptorIndex := 30, attributes := #[] }, { accessFlags := 18, nameIndex := 29, descriptorIndex := 30, attributes := #[] }, { accessFlags := 2, nameIndex := 107, descriptorIndex := 108, attributes := #[] }, { accessFlags := 18, nameIndex := 49, descriptorIndex := 50, attributes := #[] }, { accessFlags := 18, nameIndex := 53, descriptorIndex := 50, attributes := #[] }, { accessFlags := 2, nameIndex := 67, descriptorIndex := 68, attributes := #[] }])
  fields := #[{ name := "PRIME32_1", type := .long, accessFlags := 24, slot := 0, constantValue := 0 }, { name := "PRIME32_2", type := .long, accessFlags := 24, slot := 1, constantValue := 0 }, { name := "PRIME32_3", type := .long, accessFlags := 24, slot := 2, constantValue := 0 }, { name := "PRIME64_1", type := .long, accessFlags := 24, slot := 3, constantValue := 0 }, { name := "PRIME64_2", type := .long, accessFlags := 24, slot := 4, constantValue := 0 }, { name := "PRIME64_3", type := .long, accessFlags := 24, slot := 5, constantValue := 0 }, { name := "PRIME64_4", type := .long, accessFlags := 24, slot := 6, constantValue := 0 }, { name := "PRIME64_5", type := .long, accessFlags := 24, slot := 7, constantValue := 0 }, { name := "PRIME_MX1", type := .long, accessFlags := 24, slot := 8, constantValue := 0 }, { name := "PRIME_MX2", type := .long, accessFlags := 24, slot := 9, constantValue := 0 }, { name := "SHORT_MAX", type := .int, accessFlags := 24, slot := 10, constantValue := 0 }, { name := "MID_MIN", type := .int, accessFlags := 24, slot := 11, constantValue := 0 }, { name := "SECRET_LENGTH", type := .int, accessFlags := 24, slot := 12, constantValue := 0 }, { name := "MID_SECRET_START", type := .int, accessFlags := 24, slot := 13, constantValue := 0 }, { name := "MID_SECRET_LAST", type := .int, accessFlags := 24, slot := 14, constantValue := 0 }, { name := "MERGE_SECRET_START", type := .int, accessFlags := 24, slot := 15, constantValue := 0 }, { name := "STRIPE", type := .int, accessFlags := 26, slot := 16, constantValue := 0 }, { name := "LANES", type := .int, accessFlags := 26, slot := 17, constantValue := 0 }, { name := "STRIPES_PER_BLOCK", type := .int, accessFlags := 26, slot := 18, constantValue := 0 }, { name := "SCRAMBLE_SECRET", type := .int, accessFlags := 26, slot := 19, constantValue := 0 }, { name := "LAST_STRIPE_SECRET", type := .int, accessFlags := 26, slot := 20, constantValue := 0 }, { name := "HELD", type := .int, accessFlags := 26, slot := 21, constantValue := 0 }, { name := "SECRET", type := (.object "java/nio/ByteBuffer"), accessFlags := 26, slot := 22, constantValue := 0 }, { name := "BLOCK_KEYS", type := (.array .long), accessFlags := 26, slot := 23, constantValue := 0 }, { name := "LAST_STRIPE_KEYS", type := (.array .long), accessFlags := 26, slot := 24, constantValue := 0 }, { name := "SCRAMBLE_KEYS", type := (.array .long), accessFlags := 26, slot := 25, constantValue := 0 }, { name := "accumulators", type := (.array .long), accessFlags := 18, slot := 0, constantValue := 0 }, { name := "stripesInBlock", type := .int, accessFlags := 2, slot := 1, constantValue := 0 }, { name := "held", type := (.object "java/nio/ByteBuffer"), accessFlags := 18, slot := 2, constantValue := 0 }, { name := "lastTaken", type := (.object "java/nio/ByteBuffer"), accessFlags := 18, slot := 3, constantValue := 0 }, { name := "length", type := .long, accessFlags := 2, slot := 4, constantValue := 0 }]
  methods := #[k3m0, k3m1]
  instanceTypes := #[(.array .long), .int, (.object "java/nio/ByteBuffer"), (.object "java/nio/ByteBuffer"), .long]
  staticTypes := #[.long, .long, .long, .long, .long, .long, .long, .long, .long, .long, .int, .int, .int, .int, .int, .int, .int, .int, .int, .int, .int, .int, (.object "java/nio/ByteBuffer"), (.array .long), (.array .long), (.array .long)]
  resolved := Array.replicate 272 none
  statics := none }

def pool4 : Array CpInfo := pool [(1, .class_ 2), (0, u "java/lang/Math"), (1, .class_ 6), (1, u "java/lang/Object"), (0, u "<init>"), (0, u "()V"), (89, .class_ 100), (1, u "java/lang/Math$RandomNumberGeneratorHolder"), (20, u "(JJ)J"), (16, .long 4294967295), (3, u "multiplyHigh"), (29, u "negativeZeroFloatBits"), (0, u "J"), (2, u "negativeZeroDoubleBits"), (68, u "$assertionsDisabled"), (0, u "Z"), (91, u "twoToTheDoubleScaleDown"), (0, u "D"), (4, u "twoToTheDoubleScaleUp"), (9, u "E"), (3, u "PI"), (2, u "TAU"), (2, u "DEGREES_TO_RADIANS"), (0, u "RADIANS_TO_DEGREES")] 94

def k4m0 : Method := { name := "<init>", desc := "()V", sig := { parameters := [], returnType := none }, accessFlags := 2, code := none }
def k4c1 : Code := { maxStack := 6, maxLocals := 20, code := jdk_29_method_45_code, exceptionTable := #[], attributes := #[] }
def k4m1 : Method := { name := "multiplyHigh", desc := "(JJ)J", sig := { parameters := [.long, .long], returnType := some .long }, accessFlags := 9, code := some k4c1 }
/-- java/lang/Math -/
def k4 : Class := { plain "java/lang/Math" (some 0) with
  accessFlags := 49
  interfaces := #[]
  cf := some (fileOf pool4 1 #[.nestMembers #[98]] #[{ accessFlags := 2, nameIndex := 7, descriptorIndex := 8, attributes := #[] }, { accessFlags := 9, nameIndex := 142, descriptorIndex := 121, attributes := #[] }] 49 4 #[] #[{ accessFlags := 25, nameIndex := 354, descriptorIndex := 339, attributes := #[] }, { accessFlags := 25, nameIndex := 358, descriptorIndex := 339, attributes := #[] }, { accessFlags := 25, nameIndex := 361, descriptorIndex := 339, attributes := #[] }, { accessFlags := 26, nameIndex := 364, descriptorIndex := 339, attributes := #[] }, { accessFlags := 26, nameIndex := 365, descriptorIndex := 339, attributes := #[] }, { accessFlags := 26, nameIndex := 172, descriptorIndex := 173, attributes := #[] }, { accessFlags := 26, nameIndex := 176, descriptorIndex := 173, attributes := #[] }, { accessFlags := 8, nameIndex := 344, descriptorIndex := 339, attributes := #[] }, { accessFlags := 8, nameIndex := 338, descriptorIndex := 339, attributes := #[] }, { accessFlags := 4120, nameIndex := 245, descriptorIndex := 246, attributes := #[] }])
  fields := #[{ name := "E", type := .double, accessFlags := 25, slot := 0, constantValue := 0 }, { name := "PI", type := .double, accessFlags := 25, slot := 1, constantValue := 0 }, { name := "TAU", type := .double, accessFlags := 25, slot := 2, constantValue := 0 }, { name := "DEGREES_TO_RADIANS", type := .double, accessFlags := 26, slot := 3, constantValue := 0 }, { name := "RADIANS_TO_DEGREES", type := .double, accessFlags := 26, slot := 4, constantValue := 0 }, { name := "negativeZeroFloatBits", type := .long, accessFlags := 26, slot := 5, constantValue := 0 }, { name := "negativeZeroDoubleBits", type := .long, accessFlags := 26, slot := 6, constantValue := 0 }, { name := "twoToTheDoubleScaleUp", type := .double, accessFlags := 8, slot := 7, constantValue := 0 }, { name := "twoToTheDoubleScaleDown", type := .double, accessFlags := 8, slot := 8, constantValue := 0 }, { name := "$assertionsDisabled", type := .boolean, accessFlags := 4120, slot := 9, constantValue := 0 }]
  methods := #[k4m0, k4m1]
  instanceTypes := #[]
  staticTypes := #[.double, .double, .double, .double, .double, .long, .long, .double, .double, .boolean]
  resolved := Array.replicate 460 none
  statics := none }

def pool5 : Array CpInfo := pool [(1, u "java/lang/Cloneable"), (0, .class_ 1), (0, u "java/lang/Object"), (0, .class_ 3)] 3

/-- java/lang/Cloneable -/
def k5 : Class := { plain "java/lang/Cloneable" (some 0) with
  accessFlags := 1537
  interfaces := #[]
  cf := some (fileOf pool5 2 #[] #[] 1537 4 #[] #[])
  fields := #[]
  methods := #[]
  instanceTypes := #[]
  staticTypes := #[]
  resolved := Array.replicate 8 none
  statics := none }

def pool6 : Array CpInfo := pool [(1, u "java/io/Serializable"), (0, .class_ 1), (0, u "java/lang/Object"), (0, .class_ 3)] 3

/-- java/io/Serializable -/
def k6 : Class := { plain "java/io/Serializable" (some 0) with
  accessFlags := 1537
  interfaces := #[]
  cf := some (fileOf pool6 2 #[] #[] 1537 4 #[] #[])
  fields := #[]
  methods := #[]
  instanceTypes := #[]
  staticTypes := #[]
  resolved := Array.replicate 8 none
  statics := none }

/-- the primitive byte -/
def k7 : Class := { plain "byte" none with kind := .primitive 'B', accessFlags := 0x411 }
/-- [B -/
def k8 : Class := { plain "[B" (some 0) with kind := .array 7 .byte, interfaces := #[5, 6], accessFlags := 1041 }

/-- the primitive int -/
def k9 : Class := { plain "int" none with kind := .primitive 'I', accessFlags := 0x411 }
/-- [I -/
def k10 : Class := { plain "[I" (some 0) with kind := .array 9 .int, interfaces := #[5, 6], accessFlags := 1041 }

def heap : Heap := #[]
def classes : Array Class := #[k0, k1, k2, k3, k4, k5, k6, k7, k8, k9, k10]
def interned : List (Array UInt16 × Addr) := []
def slotsUsed : Nat := 0
def theMethod : MethodId := ⟨1, 1⟩
def args0 : Array Value := #[.long 1, .long 2]
def aboutOver (below : List Frame) : State where
  vm := { classes := classes, interned := interned.toArray }
  heap := heap
  slotsUsed := slotsUsed
  threads := #[{ frames := .invoking theMethod args0 :: below }]
def below0 : List Frame := [.native { method := ⟨0, 0⟩, args := #[] }]
def about1 : State := aboutOver below0
def p0 : Program := .bare "" "" ""
def e0 : Env := launch0.env 0 0 0
theorem w_frames : about1.frames = Frame.invoking theMethod args0 :: below0 := rfl
set_option maxRecDepth 65536 in
theorem w_args : argsFit about1.vm theMethod args0 = true := by decide +kernel
set_option maxRecDepth 65536 in
theorem w_heap : heapFits about1 = true := by decide +kernel
set_option maxRecDepth 65536 in
theorem w_runnable : about1.curStatus? = some .runnable := by decide +kernel
set_option maxRecDepth 65536 in
theorem w_alone : about1.alone = true := by decide +kernel
set_option maxRecDepth 65536 in
theorem w_named : about1.methodNamed? x = some theMethod := by decide +kernel
set_option maxRecDepth 65536 in
theorem w_hears : about1.hears theMethod below0 = true := by decide +kernel
set_option maxRecDepth 65536 in
theorem w_ripe : about1.ripe theMethod args0 below0 = true := by decide +kernel
theorem w_running : about1.status = .running := rfl
set_option maxRecDepth 65536 in
theorem w_room : about1.hasRoom e0.platform room_1 = true :=
  launch0.hasRoom_least _ room_1 (by decide +kernel) (by decide +kernel) (by decide +kernel) (by decide +kernel) (by decide +kernel) (by decide +kernel)
theorem allAtoms_all (ts : List Jvm.Cond) (a : Array Jvm.Value) (st : Jvm.State) : (allAtoms ts).before a st = ts.all (fun c => c.before a st) := by
  induction ts with
  | nil => rfl
  | cons c t ih =>
    show (Jvm.Cond.and c (allAtoms t)).before a st = _
    rw [Jvm.Cond.before_and, ih, List.all_cons]
def words1 : List Jvm.Cond := Jvm.Cond.code x code maxLocals ret :: tables_1
/-- a 'code' word, met by the world's own term for the bytes: nothing is compared byte by byte -/
theorem code_word {y : MethodName} {bytes : ByteArray} {mx : Nat} {rt : Option FieldType} {a : Array Value} {s : State} {m : MethodId} {meth : Method} {c : Code} (h1 : s.methodNamed? y = some m) (h2 : s.vm.method? m = some meth) (h3 : meth.code = some c) (h4 : c.code = bytes)
    (h5 : (c.maxLocals == mx && c.exceptionTable.isEmpty && decide (c.maxStack ≤ mostOperands) && decide (meth.sig.returnType = rt) && !meth.locks && decide (parseMethodDescriptor y.desc = some meth.sig)) = true) : (Jvm.Cond.code y bytes mx rt).before a s = true := by
  simp only [Bool.and_eq_true, beq_iff_eq, Bool.not_eq_true', decide_eq_true_eq] at h5
  obtain ⟨⟨⟨⟨⟨g1, g2⟩, g3⟩, g4⟩, g5⟩, g6⟩ := h5
  simp [Cond.before, Cond.holds, Cond.value, h1, h2, h3, h4, g1, g2, g3, g4, g5, g6]
def isCode : Jvm.Cond → Bool
  | .code _ _ _ _ => true
  | _ => false
theorem all_split {L : List Jvm.Cond} {P : Jvm.Cond → Bool} (h1 : L.all (fun c => isCode c || P c) = true) (h2 : ∀ c ∈ L.filter isCode, P c = true) : L.all P = true := by
  refine List.all_eq_true.mpr fun c hc => ?_
  have h := List.all_eq_true.mp h1 c hc
  rcases Bool.eq_false_or_eq_true (isCode c) with hi | hi
  · exact h2 c (List.mem_filter.mpr ⟨hc, hi⟩)
  · simpa [hi] using h
set_option maxRecDepth 65536 in
theorem w_c0 : (Jvm.Cond.code x code maxLocals ret).before args0 about1 = true := code_word (m := ⟨1, 1⟩) (meth := k1m1) (c := k1c1) (by decide +kernel) rfl rfl rfl (by decide +kernel)
set_option maxRecDepth 65536 in
theorem w_c1 : (Jvm.Cond.code ({ cls := "reelwright/hash/Xxh3Core", name := "productHigh", desc := "(JJ)J" } : Jvm.MethodName) prog_17_method_16_code (4 : Nat) (Option.some Jvm.ClassFile.FieldType.long)).before args0 about1 = true := code_word (m := ⟨3, 1⟩) (meth := k3m1) (c := k3c1) (by decide +kernel) rfl rfl rfl (by decide +kernel)
set_option maxRecDepth 65536 in
theorem w_c2 : (Jvm.Cond.code ({ cls := "java/lang/Math", name := "multiplyHigh", desc := "(JJ)J" } : Jvm.MethodName) jdk_29_method_45_code (20 : Nat) (Option.some Jvm.ClassFile.FieldType.long)).before args0 about1 = true := code_word (m := ⟨4, 1⟩) (meth := k4m1) (c := k4c1) (by decide +kernel) rfl rfl rfl (by decide +kernel)
def codes1 : List Jvm.Cond := [Jvm.Cond.code x code maxLocals ret, Jvm.Cond.code ({ cls := "reelwright/hash/Xxh3Core", name := "productHigh", desc := "(JJ)J" } : Jvm.MethodName) prog_17_method_16_code (4 : Nat) (Option.some Jvm.ClassFile.FieldType.long), Jvm.Cond.code ({ cls := "java/lang/Math", name := "multiplyHigh", desc := "(JJ)J" } : Jvm.MethodName) jdk_29_method_45_code (20 : Nat) (Option.some Jvm.ClassFile.FieldType.long)]
set_option maxRecDepth 65536 in
theorem codes_eq : words1.filter isCode = codes1 := rfl
theorem w_codes : ∀ c ∈ words1.filter isCode, c.before args0 about1 = true := by
  rw [codes_eq]
  intro c hc
  simp only [codes1, List.mem_cons, List.not_mem_nil, or_false] at hc
  rcases hc with rfl | rfl | rfl
  · exact w_c0
  · exact w_c1
  · exact w_c2
set_option maxRecDepth 65536 in
theorem w_t1 : words1.all (fun c => isCode c || c.before args0 about1) = true := by decide +kernel
theorem w_tables : (allAtoms (Jvm.Cond.code x code maxLocals ret :: tables_1)).before args0 about1 = true := by
  rw [allAtoms_all]
  show words1.all (fun c => c.before args0 about1) = true
  refine all_split ?_ w_codes
  rw [w_t1]
set_option maxRecDepth 65536 in
theorem w_case : (Jvm.Cond.and given_1 narrow_1).before args0 about1 = true := by decide +kernel
theorem w_applies : (headSpec (Jvm.Cond.code x code maxLocals ret :: tables_1) room_1).applies x e0.platform about1 = true :=
  (Spec.applies_iff w_frames).mpr ⟨w_running, w_runnable, w_alone, w_named, w_hears, w_ripe, w_room, w_tables⟩
theorem atStart : AtStart classFile x code maxLocals ret World_1 tables_1 room_1 Calls_1 rest_1 Pre_1 launch0 p0 e0 about1 theMethod args0 below0 :=
  ⟨lists_1, trivial, launch0.admits_env _ _ _, launch0.least_env, fairChoices_fair.cas, fairChoices_fair.clock, w_frames, w_args, w_heap, w_applies, trivial, trivial, w_case⟩
end start1
theorem witness_1 : WitnessClaimed_1 := ⟨start1.p0, start1.e0, start1.about1, start1.theMethod, start1.args0, start1.below0, start1.atStart⟩
end Jvm.Pilot.@@N@@
