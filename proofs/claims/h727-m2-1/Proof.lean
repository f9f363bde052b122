import JvmDerived
import JvmDerived.Pilot.@@N@@Statement
import JvmDerived.Pilot.@@N@@Code
set_option linter.unusedVariables false
set_option linter.unusedSimpArgs false
namespace Jvm.Pilot.@@N@@
open Jvm Jvm.ClassFile Sem Op Lib Jvm.Free Jvm.Stand Jvm.LawKit Jvm.RoadKit Bundle Jvm.Pilot.@@N@@.Jvm.D
/-! OWN PRELUDE: a walk in continuation form: 'Goes .. U': from U on the body comes to its return, with Q -/
section OwnPrelude
variable {p : Program} {l : Launch} {e : Env} {R : Room} {s : State} {m : MethodId} {args : Array Value} {below : List Frame} {meth : Method} {c : Code} {T U U' : State} {locs : List Loc} {cells slots ce sl : Nat} {Q : Option Value → Heap → List Loc → Prop}
def Goes (p : Program) (e : Env) (s : State) (below : List Frame) (Q : Option Value → Heap → List Loc → Prop) (ce sl : Nat) (U : State) : Prop :=
  ∃ t o, Steps p.tables e below U t ∧ t.status = .running ∧ Ended t below o ∧ ∃ v L, o = .returned v ∧ Q v t.heap L ∧ FrameEnd s o t L ce sl
theorem Goes.st (h : ∀ t, Steps p.tables e below U' t → Steps p.tables e below U t) (k : Goes p e s below Q ce sl U') : Goes p e s below Q ce sl U := by
  obtain ⟨t, o, h1, r⟩ := k
  exact ⟨t, o, h t h1, r⟩
theorem Goes.tr (h : Steps p.tables e below U U') (k : Goes p e s below Q ce sl U') : Goes p e s below Q ce sl U := by
  obtain ⟨t, o, h1, r⟩ := k
  exact ⟨t, o, h.trans h1, r⟩
theorem Goes.out (X : Stand p l e R s m args below meth c T locs cells slots) (hlocks : meth.locks = false) {v : Option Value} (hv : meth.sig.returnType = none → v = none) (hc : cells ≤ ce) (hs : slots ≤ sl) (hq : Q v T.heap locs)
    (k : ∀ fs, (∀ (f : JFrame) (acts : List Action), f.method = m → f.locked = none → f.entered = [] → (doReturn e (T.setTop f) acts v).1 = T.setFrames fs) → Steps p.tables e below U (T.setFrames fs)) : Goes p e s below Q ce sl U := by
  obtain ⟨fs, hr, hrun, hended, hW, hsame⟩ := X.leave (v := v) hv hlocks
  exact ⟨_, _, k fs hr, hrun, hended, _, _, rfl, hq, ⟨_, rfl⟩, hW, hsame.mono hc hs⟩
theorem Goes.retI (X : Stand p l e R s m args below meth c T locs cells slots) (hx : p.tables.exec = Jvm.exec) (hlocks : meth.locks = false) {pc : Nat} {Ls : Array Slot} {z : Int32} {rest : List Value} (hret : meth.sig.returnType = some .int) (hd : decode c.code pc = .ok (.ireturn, 1))
    (hc : cells ≤ ce) (hs : slots ≤ sl) (hq : Q (some (.int z)) T.heap locs) : Goes p e s below Q ce sl (T.setTop (mkF m pc Ls (.int z :: rest))) :=
  Goes.out X hlocks (fun h => by rw [hret] at h; cases h) hc hs hq fun fs hl => retOut X hx hret rfl (Or.inl ⟨rfl, Or.inl rfl, _, rfl⟩) hd hl
theorem Goes.retZ (X : Stand p l e R s m args below meth c T locs cells slots) (hx : p.tables.exec = Jvm.exec) (hlocks : meth.locks = false) {pc : Nat} {Ls : Array Slot} {z : Int32} {rest : List Value} (hret : meth.sig.returnType = some .boolean) (hd : decode c.code pc = .ok (.ireturn, 1))
    (hz : z &&& 1 = z) (hc : cells ≤ ce) (hs : slots ≤ sl) (hq : Q (some (.int z)) T.heap locs) : Goes p e s below Q ce sl (T.setTop (mkF m pc Ls (.int z :: rest))) :=
  Goes.out X hlocks (fun h => by rw [hret] at h; cases h) hc hs hq fun fs hl => retOut X hx hret (by show Value.int (z &&& 1) = _; rw [hz]) (Or.inl ⟨rfl, Or.inr (Or.inl rfl), _, rfl⟩) hd hl
theorem Goes.retJ (X : Stand p l e R s m args below meth c T locs cells slots) (hx : p.tables.exec = Jvm.exec) (hlocks : meth.locks = false) {pc : Nat} {Ls : Array Slot} {z : Int64} {rest : List Value} (hret : meth.sig.returnType = some .long) (hd : decode c.code pc = .ok (.lreturn, 1))
    (hc : cells ≤ ce) (hs : slots ≤ sl) (hq : Q (some (.long z)) T.heap locs) : Goes p e s below Q ce sl (T.setTop (mkF m pc Ls (.long z :: rest))) :=
  Goes.out X hlocks (fun h => by rw [hret] at h; cases h) hc hs hq fun fs hl => retOut X hx hret rfl (Or.inr (Or.inl ⟨rfl, rfl, _, rfl⟩)) hd hl
theorem Goes.retA (X : Stand p l e R s m args below meth c T locs cells slots) (hx : p.tables.exec = Jvm.exec) (hlocks : meth.locks = false) {pc : Nat} {Ls : Array Slot} {w : Value} {t : FieldType} {rest : List Value} (hret : meth.sig.returnType = some t) (hd : decode c.code pc = .ok (.areturn, 1))
    (ht : t.isReference = true) (hw : w.isRef = true) (hn : narrow t w = w) (hc : cells ≤ ce) (hs : slots ≤ sl) (hq : Q (some w) T.heap locs) : Goes p e s below Q ce sl (T.setTop (mkF m pc Ls (w :: rest))) :=
  Goes.out X hlocks (fun h => by rw [hret] at h; cases h) hc hs hq fun fs hl => retOut X hx hret hn (Or.inr (Or.inr (Or.inr (Or.inr ⟨rfl, ht, hw⟩)))) hd hl
theorem Goes.retV (X : Stand p l e R s m args below meth c T locs cells slots) (hx : p.tables.exec = Jvm.exec) (hlocks : meth.locks = false) {pc : Nat} {Ls : Array Slot} (hret : meth.sig.returnType = none) (hd : decode c.code pc = .ok (.return_, 1))
    (hc : cells ≤ ce) (hs : slots ≤ sl) (hq : Q none T.heap locs) : Goes p e s below Q ce sl (T.setTop (mkF m pc Ls [])) :=
  Goes.out X hlocks (fun _ => rfl) hc hs hq fun fs hl => X.returnOut hx hret hd hl
/-- a boolean as the machine has it -/
def b2i (b : Bool) : Int32 := if b then 1 else 0
theorem b2i_one (b : Bool) : b2i b &&& 1 = b2i b := by cases b <;> rfl
theorem b2i_t {b : Bool} (h : ¬ b2i b = 0) : b = true := by cases b; exact absurd rfl h; rfl
theorem b2i_f {b : Bool} (h : b2i b = 0) : b = false := by cases b; rfl; exact absurd h (by decide)
theorem Exa_ns {Z : State} {h : Heap} {a : Addr} {C : String} (E : Exa Z h a C) : ∀ cell : Cell, h[a]? = some cell → cell.vm.isStatics = false := fun cell hc => by
  obtain ⟨c1, _, h1, -, -, h4, -⟩ := E
  cases h1.symm.trans hc
  exact h4
theorem Sta_keep {Z : State} {h h' : Heap} {C n d : String} {v : Value} {ws : List Addr} (F : Sta Z h C n d v) (K : Keep h h' ws) (q : ∀ x ∈ ws, ∀ cell : Cell, h[x]? = some cell → cell.vm.isStatics = false) : Sta Z h' C n d v := by
  obtain ⟨cf, i, k, f, st, cell, h1, h2, h3, h4, h5, h6, h7⟩ := F
  exact ⟨cf, i, k, f, st, cell, h1, h2, h3, h4, K.2.1 _ _ h5 (fun y => by have := q _ y _ h5; rw [h6] at this; cases this), h6, h7⟩
theorem own_selp {u : State} {as : Array Value} {y : MethodName} {n : Nat} (hins : (Cond.instantiable y.cls n).before as u = true) (hpriv : u.PrivateAt y) (hinst : (Cond.instanceMethod y).before as u = true) (hy : y.cls ≠ "java/lang/invoke/MethodHandle" ∧ y.cls ≠ "java/lang/invoke/VarHandle") : (Cond.selects y.cls y y).before as u = true := by
  obtain ⟨c, k, hc, hk, -, hniab, -, -⟩ := Cond.instantiable_spec hins
  exact selects_self_of_private hc hk (Bool.or_eq_false_iff.mp hniab).1 hpriv hinst hy
end OwnPrelude

def own_ns : List Value := [(.int (65 : Int32)), (.int (90 : Int32)), (.int (97 : Int32)), (.int (122 : Int32)), (.int (192 : Int32)), (.int (214 : Int32)), (.int (216 : Int32)), (.int (246 : Int32)), (.int (248 : Int32)), (.int (767 : Int32)), (.int (880 : Int32)), (.int (893 : Int32)), (.int (895 : Int32)), (.int (8191 : Int32)), (.int (8204 : Int32)), (.int (8205 : Int32)), (.int (8304 : Int32)), (.int (8591 : Int32)), (.int (11264 : Int32)), (.int (12271 : Int32)), (.int (12289 : Int32)), (.int (55295 : Int32)), (.int (63744 : Int32)), (.int (64975 : Int32)), (.int (65008 : Int32)), (.int (65533 : Int32)), (.int (65536 : Int32)), (.int (983039 : Int32))]
theorem d4_0 : decode method_2_code 0 = .ok (.iload_n 0, 1) := by decide +kernel
theorem d4_1 : decode method_2_code 1 = .ok (.iload_n 1, 1) := by decide +kernel
theorem d4_2 : decode method_2_code 2 = .ok (.if_icmp .lt 12, 3) := by decide +kernel
theorem d4_5 : decode method_2_code 5 = .ok (.iload_n 0, 1) := by decide +kernel
theorem d4_6 : decode method_2_code 6 = .ok (.iload_n 2, 1) := by decide +kernel
theorem d4_7 : decode method_2_code 7 = .ok (.if_icmp .gt 7, 3) := by decide +kernel
theorem d4_10 : decode method_2_code 10 = .ok (.iconst 1, 1) := by decide +kernel
theorem d4_11 : decode method_2_code 11 = .ok (.goto 4, 3) := by decide +kernel
theorem d4_14 : decode method_2_code 14 = .ok (.iconst 0, 1) := by decide +kernel
theorem d4_15 : decode method_2_code 15 = .ok (.ireturn, 1) := by decide +kernel
theorem pn_0 : plainName "com/example/chaise/chaise/formats/TermTokenizerIsNameStartPinLaw" = true := by first | (simp [plainName, overriddenIn]; done) | decide +kernel
theorem ef_rm4 (m : MethodId) (p1 : Int32) (p2 : Int32) (p3 : Int32) : entryFrame m #[(.int p1), (.int p2), (.int p3)] 3 = mkF m 0 #[.val (.int p1), .val (.int p2), .val (.int p3)] [] := by first | (simp [entryFrame, mkF, argsToLocals, Value.category]; done) | rfl
def fnin (p1 : Int32) (p2 : Int32) (p3 : Int32) : Int32 := (if p1 < p2 then (0 : Int32) else (if p3 < p1 then (0 : Int32) else (1 : Int32)))
def Q4 (Z : State) (p1 : Int32) (p2 : Int32) (p3 : Int32) (h0 : Heap) (n0 : Nat) (v : Option Value) (h : Heap) (L : List Loc) : Prop := v = some (.int (fnin p1 p2 p3)) ∧ Fr n0 L ∧ h = h0
set_option maxRecDepth 65536 in
set_option maxHeartbeats 40000000 in
theorem rm4 (l : Launch) (Z : State) (a0 : Array Value) (hw : ∀ d ∈ tables_1, d.before a0 Z = true) (ws : List Jvm.Cond) (p1 : Int32) (p2 : Int32) (p3 : Int32) (h0 : Heap) (n0 : Nat) (Z0 : n0 ≤ h0.size) :
    MetFree l (⟨"com/example/chaise/chaise/formats/TermTokenizerIsNameStartPinLaw", "in", "(III)Z"⟩ : MethodName) (head1 (Jvm.Cond.code (⟨"com/example/chaise/chaise/formats/TermTokenizerIsNameStartPinLaw", "in", "(III)Z"⟩ : MethodName) method_2_code 3 (some .boolean) :: ws) ({ frames := 0, cells := 0, slots := 0, locals := 0 } : Room)) (fun a U => a = #[(.int p1), (.int p2), (.int p3)] ∧ Z.Warmed39 U.vm ∧ U.heap = h0) (fun _ _ _ _ _ => True) (fun _ U o U' => ∃ v L, o = .returned v ∧ Q4 Z p1 p2 p3 h0 n0 v U'.heap L ∧ FrameEnd U o U' L ({ frames := 0, cells := 0, slots := 0, locals := 0 } : Room).cells ({ frames := 0, cells := 0, slots := 0, locals := 0 } : Room).slots) := by
  refine MetFree.of_bodySF (plainFor_of_name pn_0) hisR ?_
  intro p e s m args below meth c s₁ Bd hml0 hP hK
  obtain ⟨rfl, hZ, hh⟩ := hP
  have hx := Bd.exec
  have hby := Bd.bytes
  have hml : c.maxLocals = 3 := hml0
  have hown : s.vm.findClass "com/example/chaise/chaise/formats/TermTokenizerIsNameStartPinLaw" = some m.cls := findClass_of_methodNamed Bd.named
  have hnm := (name_of_methodNamed Bd.named Bd.method).1
  have X0 : Stand p l e ({ frames := 0, cells := 0, slots := 0, locals := 0 } : Room) s m #[(.int p1), (.int p2), (.int p3)] below meth c s₁ [] 0 0 := Stand.of_body Bd
  have e0 : s₁.heap = h0 := by rw [← hh, Bd.state]; rfl
  have N0 := Fr.nil n0
  show Goes p e s below (fun v h L => Q4 Z p1 p2 p3 h0 n0 v h L) ({ frames := 0, cells := 0, slots := 0, locals := 0 } : Room).cells ({ frames := 0, cells := 0, slots := 0, locals := 0 } : Room).slots (s₁.setTop (entryFrame m #[(.int p1), (.int p2), (.int p3)] 3))
  refine Goes.st (U' := s₁.setTop (mkF m 0 #[.val (.int p1), .val (.int p2), .val (.int p3)] [])) (fun t k => castTop (ef_rm4 m p1 p2 p3) k) ?_
  refine Goes.st (U' := s₁.setTop (mkF m 1 #[.val (.int p1), .val (.int p2), .val (.int p3)] [(.int p1)])) (fun t k => XS.iloadN X0.here hx rfl (hb hby d4_0) rfl k) ?_
  refine Goes.st (U' := s₁.setTop (mkF m 2 #[.val (.int p1), .val (.int p2), .val (.int p3)] [(.int p2), (.int p1)])) (fun t k => XS.iloadN X0.here hx rfl (hb hby d4_1) rfl k) ?_
  rcases Decidable.em (p1 < p2) with hc2 | hc2
  · refine Goes.st (U' := s₁.setTop (mkF m 14 #[.val (.int p1), .val (.int p2), .val (.int p3)] [])) (fun t k => XS.icmpYes X0.here hx rfl (pc0 := 2) (pc' := 14) rfl (hb hby d4_2) rfl (tlt hc2).1 (by decide) (by decide) k) ?_
    refine Goes.st (U' := s₁.setTop (mkF m 15 #[.val (.int p1), .val (.int p2), .val (.int p3)] [(.int (0 : Int32))])) (fun t k => XS.iconst X0.here hx rfl (hb hby d4_14) k) ?_
    refine Goes.retZ X0 hx (BodyLoose.notSynchronized Bd) Bd.returns (hb hby d4_15) rfl (by decide) (by decide) ?_
    show Q4 Z p1 p2 p3 h0 n0 _ s₁.heap _
    rw [e0]
    exact ⟨(congrArg some (congrArg _ (by unfold fnin; rw [if_pos hc2]))), N0, rfl⟩
  · refine Goes.st (U' := s₁.setTop (mkF m 5 #[.val (.int p1), .val (.int p2), .val (.int p3)] [])) (fun t k => XS.icmpNo X0.here hx rfl (hb hby d4_2) rfl (flt hc2).1 k) ?_
    refine Goes.st (U' := s₁.setTop (mkF m 6 #[.val (.int p1), .val (.int p2), .val (.int p3)] [(.int p1)])) (fun t k => XS.iloadN X0.here hx rfl (hb hby d4_5) rfl k) ?_
    refine Goes.st (U' := s₁.setTop (mkF m 7 #[.val (.int p1), .val (.int p2), .val (.int p3)] [(.int p3), (.int p1)])) (fun t k => XS.iloadN X0.here hx rfl (hb hby d4_6) rfl k) ?_
    rcases Decidable.em (p3 < p1) with hc7 | hc7
    · refine Goes.st (U' := s₁.setTop (mkF m 14 #[.val (.int p1), .val (.int p2), .val (.int p3)] [])) (fun t k => XS.icmpYes X0.here hx rfl (pc0 := 7) (pc' := 14) rfl (hb hby d4_7) rfl (tlt hc7).2.2.1 (by decide) (by decide) k) ?_
      refine Goes.st (U' := s₁.setTop (mkF m 15 #[.val (.int p1), .val (.int p2), .val (.int p3)] [(.int (0 : Int32))])) (fun t k => XS.iconst X0.here hx rfl (hb hby d4_14) k) ?_
      refine Goes.retZ X0 hx (BodyLoose.notSynchronized Bd) Bd.returns (hb hby d4_15) rfl (by decide) (by decide) ?_
      show Q4 Z p1 p2 p3 h0 n0 _ s₁.heap _
      rw [e0]
      exact ⟨(congrArg some (congrArg _ (by unfold fnin; rw [if_neg hc2]; rw [if_pos hc7]))), N0, rfl⟩
    · refine Goes.st (U' := s₁.setTop (mkF m 10 #[.val (.int p1), .val (.int p2), .val (.int p3)] [])) (fun t k => XS.icmpNo X0.here hx rfl (hb hby d4_7) rfl (flt hc7).2.2.1 k) ?_
      refine Goes.st (U' := s₁.setTop (mkF m 11 #[.val (.int p1), .val (.int p2), .val (.int p3)] [(.int (1 : Int32))])) (fun t k => XS.iconst X0.here hx rfl (hb hby d4_10) k) ?_
      refine Goes.st (U' := s₁.setTop (mkF m 15 #[.val (.int p1), .val (.int p2), .val (.int p3)] [(.int (1 : Int32))])) (fun t k => XS.goto X0.here hx rfl (pc0 := 11) (pc' := 15) rfl (hb hby d4_11) (by decide) (by decide) k) ?_
      refine Goes.retZ X0 hx (BodyLoose.notSynchronized Bd) Bd.returns (hb hby d4_15) rfl (by decide) (by decide) ?_
      show Q4 Z p1 p2 p3 h0 n0 _ s₁.heap _
      rw [e0]
      exact ⟨(congrArg some (congrArg _ (by unfold fnin; rw [if_neg hc2]; rw [if_neg hc7]))), N0, rfl⟩
theorem d3_0 : decode method_3_code 0 = .ok (.iload_n 0, 1) := by decide +kernel
theorem d3_1 : decode method_3_code 1 = .ok (.bipush 65, 2) := by decide +kernel
theorem d3_3 : decode method_3_code 3 = .ok (.bipush 90, 2) := by decide +kernel
theorem d3_5 : decode method_3_code 5 = .ok (.invokestatic 7, 3) := by decide +kernel
theorem d3_8 : decode method_3_code 8 = .ok (.ifCond .ne 163, 3) := by decide +kernel
theorem d3_11 : decode method_3_code 11 = .ok (.iload_n 0, 1) := by decide +kernel
theorem d3_12 : decode method_3_code 12 = .ok (.bipush 97, 2) := by decide +kernel
theorem d3_14 : decode method_3_code 14 = .ok (.bipush 122, 2) := by decide +kernel
theorem d3_16 : decode method_3_code 16 = .ok (.invokestatic 7, 3) := by decide +kernel
theorem d3_19 : decode method_3_code 19 = .ok (.ifCond .ne 152, 3) := by decide +kernel
theorem d3_22 : decode method_3_code 22 = .ok (.iload_n 0, 1) := by decide +kernel
theorem d3_23 : decode method_3_code 23 = .ok (.sipush 192, 3) := by decide +kernel
theorem d3_26 : decode method_3_code 26 = .ok (.sipush 214, 3) := by decide +kernel
theorem d3_29 : decode method_3_code 29 = .ok (.invokestatic 7, 3) := by decide +kernel
theorem d3_32 : decode method_3_code 32 = .ok (.ifCond .ne 139, 3) := by decide +kernel
theorem d3_35 : decode method_3_code 35 = .ok (.iload_n 0, 1) := by decide +kernel
theorem d3_36 : decode method_3_code 36 = .ok (.sipush 216, 3) := by decide +kernel
theorem d3_39 : decode method_3_code 39 = .ok (.sipush 246, 3) := by decide +kernel
theorem d3_42 : decode method_3_code 42 = .ok (.invokestatic 7, 3) := by decide +kernel
theorem d3_45 : decode method_3_code 45 = .ok (.ifCond .ne 126, 3) := by decide +kernel
theorem d3_48 : decode method_3_code 48 = .ok (.iload_n 0, 1) := by decide +kernel
theorem d3_49 : decode method_3_code 49 = .ok (.sipush 248, 3) := by decide +kernel
theorem d3_52 : decode method_3_code 52 = .ok (.sipush 767, 3) := by decide +kernel
theorem d3_55 : decode method_3_code 55 = .ok (.invokestatic 7, 3) := by decide +kernel
theorem d3_58 : decode method_3_code 58 = .ok (.ifCond .ne 113, 3) := by decide +kernel
theorem d3_61 : decode method_3_code 61 = .ok (.iload_n 0, 1) := by decide +kernel
theorem d3_62 : decode method_3_code 62 = .ok (.sipush 880, 3) := by decide +kernel
theorem d3_65 : decode method_3_code 65 = .ok (.sipush 893, 3) := by decide +kernel
theorem d3_68 : decode method_3_code 68 = .ok (.invokestatic 7, 3) := by decide +kernel
theorem d3_71 : decode method_3_code 71 = .ok (.ifCond .ne 100, 3) := by decide +kernel
theorem d3_74 : decode method_3_code 74 = .ok (.iload_n 0, 1) := by decide +kernel
theorem d3_75 : decode method_3_code 75 = .ok (.sipush 895, 3) := by decide +kernel
theorem d3_78 : decode method_3_code 78 = .ok (.sipush 8191, 3) := by decide +kernel
theorem d3_81 : decode method_3_code 81 = .ok (.invokestatic 7, 3) := by decide +kernel
theorem d3_84 : decode method_3_code 84 = .ok (.ifCond .ne 87, 3) := by decide +kernel
theorem d3_87 : decode method_3_code 87 = .ok (.iload_n 0, 1) := by decide +kernel
theorem d3_88 : decode method_3_code 88 = .ok (.sipush 8204, 3) := by decide +kernel
theorem d3_91 : decode method_3_code 91 = .ok (.sipush 8205, 3) := by decide +kernel
theorem d3_94 : decode method_3_code 94 = .ok (.invokestatic 7, 3) := by decide +kernel
theorem d3_97 : decode method_3_code 97 = .ok (.ifCond .ne 74, 3) := by decide +kernel
theorem d3_100 : decode method_3_code 100 = .ok (.iload_n 0, 1) := by decide +kernel
theorem d3_101 : decode method_3_code 101 = .ok (.sipush 8304, 3) := by decide +kernel
theorem d3_104 : decode method_3_code 104 = .ok (.sipush 8591, 3) := by decide +kernel
theorem d3_107 : decode method_3_code 107 = .ok (.invokestatic 7, 3) := by decide +kernel
theorem d3_110 : decode method_3_code 110 = .ok (.ifCond .ne 61, 3) := by decide +kernel
theorem d3_113 : decode method_3_code 113 = .ok (.iload_n 0, 1) := by decide +kernel
theorem d3_114 : decode method_3_code 114 = .ok (.sipush 11264, 3) := by decide +kernel
theorem d3_117 : decode method_3_code 117 = .ok (.sipush 12271, 3) := by decide +kernel
theorem d3_120 : decode method_3_code 120 = .ok (.invokestatic 7, 3) := by decide +kernel
theorem d3_123 : decode method_3_code 123 = .ok (.ifCond .ne 48, 3) := by decide +kernel
theorem d3_126 : decode method_3_code 126 = .ok (.iload_n 0, 1) := by decide +kernel
theorem d3_127 : decode method_3_code 127 = .ok (.sipush 12289, 3) := by decide +kernel
theorem d3_130 : decode method_3_code 130 = .ok (.ldc 13, 2) := by decide +kernel
theorem d3_132 : decode method_3_code 132 = .ok (.invokestatic 7, 3) := by decide +kernel
theorem d3_135 : decode method_3_code 135 = .ok (.ifCond .ne 36, 3) := by decide +kernel
theorem d3_138 : decode method_3_code 138 = .ok (.iload_n 0, 1) := by decide +kernel
theorem d3_139 : decode method_3_code 139 = .ok (.ldc 14, 2) := by decide +kernel
theorem d3_141 : decode method_3_code 141 = .ok (.ldc 15, 2) := by decide +kernel
theorem d3_143 : decode method_3_code 143 = .ok (.invokestatic 7, 3) := by decide +kernel
theorem d3_146 : decode method_3_code 146 = .ok (.ifCond .ne 25, 3) := by decide +kernel
theorem d3_149 : decode method_3_code 149 = .ok (.iload_n 0, 1) := by decide +kernel
theorem d3_150 : decode method_3_code 150 = .ok (.ldc 16, 2) := by decide +kernel
theorem d3_152 : decode method_3_code 152 = .ok (.ldc 17, 2) := by decide +kernel
theorem d3_154 : decode method_3_code 154 = .ok (.invokestatic 7, 3) := by decide +kernel
theorem d3_157 : decode method_3_code 157 = .ok (.ifCond .ne 14, 3) := by decide +kernel
theorem d3_160 : decode method_3_code 160 = .ok (.iload_n 0, 1) := by decide +kernel
theorem d3_161 : decode method_3_code 161 = .ok (.ldc 18, 2) := by decide +kernel
theorem d3_163 : decode method_3_code 163 = .ok (.ldc 19, 2) := by decide +kernel
theorem d3_165 : decode method_3_code 165 = .ok (.invokestatic 7, 3) := by decide +kernel
theorem d3_168 : decode method_3_code 168 = .ok (.ifCond .eq 7, 3) := by decide +kernel
theorem d3_171 : decode method_3_code 171 = .ok (.iconst 1, 1) := by decide +kernel
theorem d3_172 : decode method_3_code 172 = .ok (.goto 4, 3) := by decide +kernel
theorem d3_175 : decode method_3_code 175 = .ok (.iconst 0, 1) := by decide +kernel
theorem d3_176 : decode method_3_code 176 = .ok (.ireturn, 1) := by decide +kernel
theorem pd_0 : parseMethodDescriptor "(III)Z" = some ⟨[.int, .int, .int], some .boolean⟩ := by decide +kernel
theorem ef_rm3 (m : MethodId) (p1 : Int32) : entryFrame m #[(.int p1)] 1 = mkF m 0 #[.val (.int p1)] [] := by first | (simp [entryFrame, mkF, argsToLocals, Value.category]; done) | rfl
def fnref (p1 : Int32) : Int32 := (if (fnin p1 (65 : Int32) (90 : Int32)) = (0 : Int32) then (if (fnin p1 (97 : Int32) (122 : Int32)) = (0 : Int32) then (if (fnin p1 (192 : Int32) (214 : Int32)) = (0 : Int32) then (if (fnin p1 (216 : Int32) (246 : Int32)) = (0 : Int32) then (if (fnin p1 (248 : Int32) (767 : Int32)) = (0 : Int32) then (if (fnin p1 (880 : Int32) (893 : Int32)) = (0 : Int32) then (if (fnin p1 (895 : Int32) (8191 : Int32)) = (0 : Int32) then (if (fnin p1 (8204 : Int32) (8205 : Int32)) = (0 : Int32) then (if (fnin p1 (8304 : Int32) (8591 : Int32)) = (0 : Int32) then (if (fnin p1 (11264 : Int32) (12271 : Int32)) = (0 : Int32) then (if (fnin p1 (12289 : Int32) (55295 : Int32)) = (0 : Int32) then (if (fnin p1 (63744 : Int32) (64975 : Int32)) = (0 : Int32) then (if (fnin p1 (65008 : Int32) (65533 : Int32)) = (0 : Int32) then (if (fnin p1 (65536 : Int32) (983039 : Int32)) = (0 : Int32) then (0 : Int32) else (1 : Int32)) else (1 : Int32)) else (1 : Int32)) else (1 : Int32)) else (1 : Int32)) else (1 : Int32)) else (1 : Int32)) else (1 : Int32)) else (1 : Int32)) else (1 : Int32)) else (1 : Int32)) else (1 : Int32)) else (1 : Int32)) else (1 : Int32))
def Q3 (Z : State) (p1 : Int32) (h0 : Heap) (n0 : Nat) (v : Option Value) (h : Heap) (L : List Loc) : Prop := v = some (.int (fnref p1)) ∧ Fr n0 L ∧ h = h0
set_option maxRecDepth 65536 in
set_option maxHeartbeats 40000000 in
theorem rm3 (l : Launch) (Z : State) (a0 : Array Value) (hw : ∀ d ∈ tables_1, d.before a0 Z = true) (ws : List Jvm.Cond) (p1 : Int32) (h0 : Heap) (n0 : Nat) (Z0 : n0 ≤ h0.size) :
    MetFree l (⟨"com/example/chaise/chaise/formats/TermTokenizerIsNameStartPinLaw", "reference", "(I)Z"⟩ : MethodName) (head1 (Jvm.Cond.code (⟨"com/example/chaise/chaise/formats/TermTokenizerIsNameStartPinLaw", "reference", "(I)Z"⟩ : MethodName) method_3_code 1 (some .boolean) :: ws) ({ frames := 1, cells := 0, slots := 0, locals := 14 } : Room)) (fun a U => a = #[(.int p1)] ∧ Z.Warmed39 U.vm ∧ U.heap = h0) (fun _ _ _ _ _ => True) (fun _ U o U' => ∃ v L, o = .returned v ∧ Q3 Z p1 h0 n0 v U'.heap L ∧ FrameEnd U o U' L ({ frames := 1, cells := 0, slots := 0, locals := 14 } : Room).cells ({ frames := 1, cells := 0, slots := 0, locals := 14 } : Room).slots) := by
  refine MetFree.of_bodySF (plainFor_of_name pn_0) hisR ?_
  intro p e s m args below meth c s₁ Bd hml0 hP hK
  obtain ⟨rfl, hZ, hh⟩ := hP
  have hx := Bd.exec
  have hby := Bd.bytes
  have hml : c.maxLocals = 1 := hml0
  have hown : s.vm.findClass "com/example/chaise/chaise/formats/TermTokenizerIsNameStartPinLaw" = some m.cls := findClass_of_methodNamed Bd.named
  have hnm := (name_of_methodNamed Bd.named Bd.method).1
  have X0 : Stand p l e ({ frames := 1, cells := 0, slots := 0, locals := 14 } : Room) s m #[(.int p1)] below meth c s₁ [] 0 0 := Stand.of_body Bd
  have e0 : s₁.heap = h0 := by rw [← hh, Bd.state]; rfl
  have N0 := Fr.nil n0
  show Goes p e s below (fun v h L => Q3 Z p1 h0 n0 v h L) ({ frames := 1, cells := 0, slots := 0, locals := 14 } : Room).cells ({ frames := 1, cells := 0, slots := 0, locals := 14 } : Room).slots (s₁.setTop (entryFrame m #[(.int p1)] 1))
  refine Goes.st (U' := s₁.setTop (mkF m 0 #[.val (.int p1)] [])) (fun t k => castTop (ef_rm3 m p1) k) ?_
  refine Goes.st (U' := s₁.setTop (mkF m 1 #[.val (.int p1)] [(.int p1)])) (fun t k => XS.iloadN X0.here hx rfl (hb hby d3_0) rfl k) ?_
  refine Goes.st (U' := s₁.setTop (mkF m 3 #[.val (.int p1)] [(.int (65 : Int32)), (.int p1)])) (fun t k => XS.bipush X0.here hx rfl (hb hby d3_1) k) ?_
  refine Goes.st (U' := s₁.setTop (mkF m 5 #[.val (.int p1)] [(.int (90 : Int32)), (.int (65 : Int32)), (.int p1)])) (fun t k => XS.bipush X0.here hx rfl (hb hby d3_3) k) ?_
  obtain ⟨_, _, ⟨T1, L1, k1, n1⟩, -, X1, ⟨Lc1, hQ1, l1, y1, z1⟩, st1⟩ := Jvm.LawKit.callS X0 hx (y := (⟨"com/example/chaise/chaise/formats/TermTokenizerIsNameStartPinLaw", "in", "(III)Z"⟩ : MethodName)) hown (mvT hZ (hw _ (List.mem_of_getElem? (i := 13) rfl))) (mvT hZ (hw _ (List.mem_of_getElem? (i := 14) rfl))) (mvT hZ (hw _ (List.mem_of_getElem? (i := 2) rfl))) (mvT hZ (hw _ (List.mem_of_getElem? (i := 15) rfl))) (by decide) (backOf (W := 0) (rm4 l Z a0 hw [] p1 (65 : Int32) (90 : Int32) h0 n0 Z0) hZ (hw _ (List.mem_of_getElem? (i := 15) rfl)) (hw _ (List.mem_of_getElem? (i := 2) rfl)) (by decide) (by decide)) (g := (mkF m 5 #[.val (.int p1)] [(.int (90 : Int32)), (.int (65 : Int32)), (.int p1)])) rfl (by rw [hml]; rfl) (argsL := [(.int p1), (.int (65 : Int32)), (.int (90 : Int32))]) (rest := []) (lenOf pd_0 rfl) rfl (by show 2 * 0 + _ ≤ _; exact Nat.le_of_eq rfl) (hb hby d3_5) (fun _ _ => ⟨rfl, e0, (by decide : 0 + 0 ≤ _), (by decide : 0 + 0 ≤ _)⟩)
  dsimp only [Pt.U, Pt.locs, Pt.cells, Pt.slots] at X1 l1 y1 z1 st1 hQ1
  subst l1 y1 z1
  obtain ⟨rfl, N1q, e1⟩ := hQ1
  have N1 := Fr.app N0 N1q
  refine Goes.st (U' := T1.setTop (mkF m 8 #[.val (.int p1)] [(.int (fnin p1 (65 : Int32) (90 : Int32)))])) st1 ?_
  rcases Decidable.em ((fnin p1 (65 : Int32) (90 : Int32)) = (0 : Int32)) with hc8 | hc8
  · refine Goes.st (U' := T1.setTop (mkF m 11 #[.val (.int p1)] [])) (fun t k => XS.ifNo X1.here hx rfl (hb hby d3_8) rfl ((if0 _ _).trans (teq hc8).2) k) ?_
    refine Goes.st (U' := T1.setTop (mkF m 12 #[.val (.int p1)] [(.int p1)])) (fun t k => XS.iloadN X1.here hx rfl (hb hby d3_11) rfl k) ?_
    refine Goes.st (U' := T1.setTop (mkF m 14 #[.val (.int p1)] [(.int (97 : Int32)), (.int p1)])) (fun t k => XS.bipush X1.here hx rfl (hb hby d3_12) k) ?_
    refine Goes.st (U' := T1.setTop (mkF m 16 #[.val (.int p1)] [(.int (122 : Int32)), (.int (97 : Int32)), (.int p1)])) (fun t k => XS.bipush X1.here hx rfl (hb hby d3_14) k) ?_
    obtain ⟨_, _, ⟨T2, L2, k2, n2⟩, -, X2, ⟨Lc2, hQ2, l2, y2, z2⟩, st2⟩ := Jvm.LawKit.callS X1 hx (y := (⟨"com/example/chaise/chaise/formats/TermTokenizerIsNameStartPinLaw", "in", "(III)Z"⟩ : MethodName)) hown (mvT hZ (hw _ (List.mem_of_getElem? (i := 13) rfl))) (mvT hZ (hw _ (List.mem_of_getElem? (i := 14) rfl))) (mvT hZ (hw _ (List.mem_of_getElem? (i := 2) rfl))) (mvT hZ (hw _ (List.mem_of_getElem? (i := 15) rfl))) (by decide) (backOf (W := 0) (rm4 l Z a0 hw [] p1 (97 : Int32) (122 : Int32) h0 n0 Z0) hZ (hw _ (List.mem_of_getElem? (i := 15) rfl)) (hw _ (List.mem_of_getElem? (i := 2) rfl)) (by decide) (by decide)) (g := (mkF m 16 #[.val (.int p1)] [(.int (122 : Int32)), (.int (97 : Int32)), (.int p1)])) rfl (by rw [hml]; rfl) (argsL := [(.int p1), (.int (97 : Int32)), (.int (122 : Int32))]) (rest := []) (lenOf pd_0 rfl) rfl (by show 2 * 0 + _ ≤ _; exact Nat.le_of_eq rfl) (hb hby d3_16) (fun _ _ => ⟨rfl, e1, (by decide : 0 + 0 ≤ _), (by decide : 0 + 0 ≤ _)⟩)
    dsimp only [Pt.U, Pt.locs, Pt.cells, Pt.slots] at X2 l2 y2 z2 st2 hQ2
    subst l2 y2 z2
    obtain ⟨rfl, N2q, e2⟩ := hQ2
    have N2 := Fr.app N1 N2q
    refine Goes.st (U' := T2.setTop (mkF m 19 #[.val (.int p1)] [(.int (fnin p1 (97 : Int32) (122 : Int32)))])) st2 ?_
    rcases Decidable.em ((fnin p1 (97 : Int32) (122 : Int32)) = (0 : Int32)) with hc19 | hc19
    · refine Goes.st (U' := T2.setTop (mkF m 22 #[.val (.int p1)] [])) (fun t k => XS.ifNo X2.here hx rfl (hb hby d3_19) rfl ((if0 _ _).trans (teq hc19).2) k) ?_
      refine Goes.st (U' := T2.setTop (mkF m 23 #[.val (.int p1)] [(.int p1)])) (fun t k => XS.iloadN X2.here hx rfl (hb hby d3_22) rfl k) ?_
      refine Goes.st (U' := T2.setTop (mkF m 26 #[.val (.int p1)] [(.int (192 : Int32)), (.int p1)])) (fun t k => XS.sipush X2.here hx rfl (hb hby d3_23) k) ?_
      refine Goes.st (U' := T2.setTop (mkF m 29 #[.val (.int p1)] [(.int (214 : Int32)), (.int (192 : Int32)), (.int p1)])) (fun t k => XS.sipush X2.here hx rfl (hb hby d3_26) k) ?_
      obtain ⟨_, _, ⟨T3, L3, k3, n3⟩, -, X3, ⟨Lc3, hQ3, l3, y3, z3⟩, st3⟩ := Jvm.LawKit.callS X2 hx (y := (⟨"com/example/chaise/chaise/formats/TermTokenizerIsNameStartPinLaw", "in", "(III)Z"⟩ : MethodName)) hown (mvT hZ (hw _ (List.mem_of_getElem? (i := 13) rfl))) (mvT hZ (hw _ (List.mem_of_getElem? (i := 14) rfl))) (mvT hZ (hw _ (List.mem_of_getElem? (i := 2) rfl))) (mvT hZ (hw _ (List.mem_of_getElem? (i := 15) rfl))) (by decide) (backOf (W := 0) (rm4 l Z a0 hw [] p1 (192 : Int32) (214 : Int32) h0 n0 Z0) hZ (hw _ (List.mem_of_getElem? (i := 15) rfl)) (hw _ (List.mem_of_getElem? (i := 2) rfl)) (by decide) (by decide)) (g := (mkF m 29 #[.val (.int p1)] [(.int (214 : Int32)), (.int (192 : Int32)), (.int p1)])) rfl (by rw [hml]; rfl) (argsL := [(.int p1), (.int (192 : Int32)), (.int (214 : Int32))]) (rest := []) (lenOf pd_0 rfl) rfl (by show 2 * 0 + _ ≤ _; exact Nat.le_of_eq rfl) (hb hby d3_29) (fun _ _ => ⟨rfl, e2, (by decide : 0 + 0 ≤ _), (by decide : 0 + 0 ≤ _)⟩)
      dsimp only [Pt.U, Pt.locs, Pt.cells, Pt.slots] at X3 l3 y3 z3 st3 hQ3
      subst l3 y3 z3
      obtain ⟨rfl, N3q, e3⟩ := hQ3
      have N3 := Fr.app N2 N3q
      refine Goes.st (U' := T3.setTop (mkF m 32 #[.val (.int p1)] [(.int (fnin p1 (192 : Int32) (214 : Int32)))])) st3 ?_
      rcases Decidable.em ((fnin p1 (192 : Int32) (214 : Int32)) = (0 : Int32)) with hc32 | hc32
      · refine Goes.st (U' := T3.setTop (mkF m 35 #[.val (.int p1)] [])) (fun t k => XS.ifNo X3.here hx rfl (hb hby d3_32) rfl ((if0 _ _).trans (teq hc32).2) k) ?_
        refine Goes.st (U' := T3.setTop (mkF m 36 #[.val (.int p1)] [(.int p1)])) (fun t k => XS.iloadN X3.here hx rfl (hb hby d3_35) rfl k) ?_
        refine Goes.st (U' := T3.setTop (mkF m 39 #[.val (.int p1)] [(.int (216 : Int32)), (.int p1)])) (fun t k => XS.sipush X3.here hx rfl (hb hby d3_36) k) ?_
        refine Goes.st (U' := T3.setTop (mkF m 42 #[.val (.int p1)] [(.int (246 : Int32)), (.int (216 : Int32)), (.int p1)])) (fun t k => XS.sipush X3.here hx rfl (hb hby d3_39) k) ?_
        obtain ⟨_, _, ⟨T4, L4, k4, n4⟩, -, X4, ⟨Lc4, hQ4, l4, y4, z4⟩, st4⟩ := Jvm.LawKit.callS X3 hx (y := (⟨"com/example/chaise/chaise/formats/TermTokenizerIsNameStartPinLaw", "in", "(III)Z"⟩ : MethodName)) hown (mvT hZ (hw _ (List.mem_of_getElem? (i := 13) rfl))) (mvT hZ (hw _ (List.mem_of_getElem? (i := 14) rfl))) (mvT hZ (hw _ (List.mem_of_getElem? (i := 2) rfl))) (mvT hZ (hw _ (List.mem_of_getElem? (i := 15) rfl))) (by decide) (backOf (W := 0) (rm4 l Z a0 hw [] p1 (216 : Int32) (246 : Int32) h0 n0 Z0) hZ (hw _ (List.mem_of_getElem? (i := 15) rfl)) (hw _ (List.mem_of_getElem? (i := 2) rfl)) (by decide) (by decide)) (g := (mkF m 42 #[.val (.int p1)] [(.int (246 : Int32)), (.int (216 : Int32)), (.int p1)])) rfl (by rw [hml]; rfl) (argsL := [(.int p1), (.int (216 : Int32)), (.int (246 : Int32))]) (rest := []) (lenOf pd_0 rfl) rfl (by show 2 * 0 + _ ≤ _; exact Nat.le_of_eq rfl) (hb hby d3_42) (fun _ _ => ⟨rfl, e3, (by decide : 0 + 0 ≤ _), (by decide : 0 + 0 ≤ _)⟩)
        dsimp only [Pt.U, Pt.locs, Pt.cells, Pt.slots] at X4 l4 y4 z4 st4 hQ4
        subst l4 y4 z4
        obtain ⟨rfl, N4q, e4⟩ := hQ4
        have N4 := Fr.app N3 N4q
        refine Goes.st (U' := T4.setTop (mkF m 45 #[.val (.int p1)] [(.int (fnin p1 (216 : Int32) (246 : Int32)))])) st4 ?_
        rcases Decidable.em ((fnin p1 (216 : Int32) (246 : Int32)) = (0 : Int32)) with hc45 | hc45
        · refine Goes.st (U' := T4.setTop (mkF m 48 #[.val (.int p1)] [])) (fun t k => XS.ifNo X4.here hx rfl (hb hby d3_45) rfl ((if0 _ _).trans (teq hc45).2) k) ?_
          refine Goes.st (U' := T4.setTop (mkF m 49 #[.val (.int p1)] [(.int p1)])) (fun t k => XS.iloadN X4.here hx rfl (hb hby d3_48) rfl k) ?_
          refine Goes.st (U' := T4.setTop (mkF m 52 #[.val (.int p1)] [(.int (248 : Int32)), (.int p1)])) (fun t k => XS.sipush X4.here hx rfl (hb hby d3_49) k) ?_
          refine Goes.st (U' := T4.setTop (mkF m 55 #[.val (.int p1)] [(.int (767 : Int32)), (.int (248 : Int32)), (.int p1)])) (fun t k => XS.sipush X4.here hx rfl (hb hby d3_52) k) ?_
          obtain ⟨_, _, ⟨T5, L5, k5, n5⟩, -, X5, ⟨Lc5, hQ5, l5, y5, z5⟩, st5⟩ := Jvm.LawKit.callS X4 hx (y := (⟨"com/example/chaise/chaise/formats/TermTokenizerIsNameStartPinLaw", "in", "(III)Z"⟩ : MethodName)) hown (mvT hZ (hw _ (List.mem_of_getElem? (i := 13) rfl))) (mvT hZ (hw _ (List.mem_of_getElem? (i := 14) rfl))) (mvT hZ (hw _ (List.mem_of_getElem? (i := 2) rfl))) (mvT hZ (hw _ (List.mem_of_getElem? (i := 15) rfl))) (by decide) (backOf (W := 0) (rm4 l Z a0 hw [] p1 (248 : Int32) (767 : Int32) h0 n0 Z0) hZ (hw _ (List.mem_of_getElem? (i := 15) rfl)) (hw _ (List.mem_of_getElem? (i := 2) rfl)) (by decide) (by decide)) (g := (mkF m 55 #[.val (.int p1)] [(.int (767 : Int32)), (.int (248 : Int32)), (.int p1)])) rfl (by rw [hml]; rfl) (argsL := [(.int p1), (.int (248 : Int32)), (.int (767 : Int32))]) (rest := []) (lenOf pd_0 rfl) rfl (by show 2 * 0 + _ ≤ _; exact Nat.le_of_eq rfl) (hb hby d3_55) (fun _ _ => ⟨rfl, e4, (by decide : 0 + 0 ≤ _), (by decide : 0 + 0 ≤ _)⟩)
          dsimp only [Pt.U, Pt.locs, Pt.cells, Pt.slots] at X5 l5 y5 z5 st5 hQ5
          subst l5 y5 z5
          obtain ⟨rfl, N5q, e5⟩ := hQ5
          have N5 := Fr.app N4 N5q
          refine Goes.st (U' := T5.setTop (mkF m 58 #[.val (.int p1)] [(.int (fnin p1 (248 : Int32) (767 : Int32)))])) st5 ?_
          rcases Decidable.em ((fnin p1 (248 : Int32) (767 : Int32)) = (0 : Int32)) with hc58 | hc58
          · refine Goes.st (U' := T5.setTop (mkF m 61 #[.val (.int p1)] [])) (fun t k => XS.ifNo X5.here hx rfl (hb hby d3_58) rfl ((if0 _ _).trans (teq hc58).2) k) ?_
            refine Goes.st (U' := T5.setTop (mkF m 62 #[.val (.int p1)] [(.int p1)])) (fun t k => XS.iloadN X5.here hx rfl (hb hby d3_61) rfl k) ?_
            refine Goes.st (U' := T5.setTop (mkF m 65 #[.val (.int p1)] [(.int (880 : Int32)), (.int p1)])) (fun t k => XS.sipush X5.here hx rfl (hb hby d3_62) k) ?_
            refine Goes.st (U' := T5.setTop (mkF m 68 #[.val (.int p1)] [(.int (893 : Int32)), (.int (880 : Int32)), (.int p1)])) (fun t k => XS.sipush X5.here hx rfl (hb hby d3_65) k) ?_
            obtain ⟨_, _, ⟨T6, L6, k6, n6⟩, -, X6, ⟨Lc6, hQ6, l6, y6, z6⟩, st6⟩ := Jvm.LawKit.callS X5 hx (y := (⟨"com/example/chaise/chaise/formats/TermTokenizerIsNameStartPinLaw", "in", "(III)Z"⟩ : MethodName)) hown (mvT hZ (hw _ (List.mem_of_getElem? (i := 13) rfl))) (mvT hZ (hw _ (List.mem_of_getElem? (i := 14) rfl))) (mvT hZ (hw _ (List.mem_of_getElem? (i := 2) rfl))) (mvT hZ (hw _ (List.mem_of_getElem? (i := 15) rfl))) (by decide) (backOf (W := 0) (rm4 l Z a0 hw [] p1 (880 : Int32) (893 : Int32) h0 n0 Z0) hZ (hw _ (List.mem_of_getElem? (i := 15) rfl)) (hw _ (List.mem_of_getElem? (i := 2) rfl)) (by decide) (by decide)) (g := (mkF m 68 #[.val (.int p1)] [(.int (893 : Int32)), (.int (880 : Int32)), (.int p1)])) rfl (by rw [hml]; rfl) (argsL := [(.int p1), (.int (880 : Int32)), (.int (893 : Int32))]) (rest := []) (lenOf pd_0 rfl) rfl (by show 2 * 0 + _ ≤ _; exact Nat.le_of_eq rfl) (hb hby d3_68) (fun _ _ => ⟨rfl, e5, (by decide : 0 + 0 ≤ _), (by decide : 0 + 0 ≤ _)⟩)
            dsimp only [Pt.U, Pt.locs, Pt.cells, Pt.slots] at X6 l6 y6 z6 st6 hQ6
            subst l6 y6 z6
            obtain ⟨rfl, N6q, e6⟩ := hQ6
            have N6 := Fr.app N5 N6q
            refine Goes.st (U' := T6.setTop (mkF m 71 #[.val (.int p1)] [(.int (fnin p1 (880 : Int32) (893 : Int32)))])) st6 ?_
            rcases Decidable.em ((fnin p1 (880 : Int32) (893 : Int32)) = (0 : Int32)) with hc71 | hc71
            · refine Goes.st (U' := T6.setTop (mkF m 74 #[.val (.int p1)] [])) (fun t k => XS.ifNo X6.here hx rfl (hb hby d3_71) rfl ((if0 _ _).trans (teq hc71).2) k) ?_
              refine Goes.st (U' := T6.setTop (mkF m 75 #[.val (.int p1)] [(.int p1)])) (fun t k => XS.iloadN X6.here hx rfl (hb hby d3_74) rfl k) ?_
              refine Goes.st (U' := T6.setTop (mkF m 78 #[.val (.int p1)] [(.int (895 : Int32)), (.int p1)])) (fun t k => XS.sipush X6.here hx rfl (hb hby d3_75) k) ?_
              refine Goes.st (U' := T6.setTop (mkF m 81 #[.val (.int p1)] [(.int (8191 : Int32)), (.int (895 : Int32)), (.int p1)])) (fun t k => XS.sipush X6.here hx rfl (hb hby d3_78) k) ?_
              obtain ⟨_, _, ⟨T7, L7, k7, n7⟩, -, X7, ⟨Lc7, hQ7, l7, y7, z7⟩, st7⟩ := Jvm.LawKit.callS X6 hx (y := (⟨"com/example/chaise/chaise/formats/TermTokenizerIsNameStartPinLaw", "in", "(III)Z"⟩ : MethodName)) hown (mvT hZ (hw _ (List.mem_of_getElem? (i := 13) rfl))) (mvT hZ (hw _ (List.mem_of_getElem? (i := 14) rfl))) (mvT hZ (hw _ (List.mem_of_getElem? (i := 2) rfl))) (mvT hZ (hw _ (List.mem_of_getElem? (i := 15) rfl))) (by decide) (backOf (W := 0) (rm4 l Z a0 hw [] p1 (895 : Int32) (8191 : Int32) h0 n0 Z0) hZ (hw _ (List.mem_of_getElem? (i := 15) rfl)) (hw _ (List.mem_of_getElem? (i := 2) rfl)) (by decide) (by decide)) (g := (mkF m 81 #[.val (.int p1)] [(.int (8191 : Int32)), (.int (895 : Int32)), (.int p1)])) rfl (by rw [hml]; rfl) (argsL := [(.int p1), (.int (895 : Int32)), (.int (8191 : Int32))]) (rest := []) (lenOf pd_0 rfl) rfl (by show 2 * 0 + _ ≤ _; exact Nat.le_of_eq rfl) (hb hby d3_81) (fun _ _ => ⟨rfl, e6, (by decide : 0 + 0 ≤ _), (by decide : 0 + 0 ≤ _)⟩)
              dsimp only [Pt.U, Pt.locs, Pt.cells, Pt.slots] at X7 l7 y7 z7 st7 hQ7
              subst l7 y7 z7
              obtain ⟨rfl, N7q, e7⟩ := hQ7
              have N7 := Fr.app N6 N7q
              refine Goes.st (U' := T7.setTop (mkF m 84 #[.val (.int p1)] [(.int (fnin p1 (895 : Int32) (8191 : Int32)))])) st7 ?_
              rcases Decidable.em ((fnin p1 (895 : Int32) (8191 : Int32)) = (0 : Int32)) with hc84 | hc84
              · refine Goes.st (U' := T7.setTop (mkF m 87 #[.val (.int p1)] [])) (fun t k => XS.ifNo X7.here hx rfl (hb hby d3_84) rfl ((if0 _ _).trans (teq hc84).2) k) ?_
                refine Goes.st (U' := T7.setTop (mkF m 88 #[.val (.int p1)] [(.int p1)])) (fun t k => XS.iloadN X7.here hx rfl (hb hby d3_87) rfl k) ?_
                refine Goes.st (U' := T7.setTop (mkF m 91 #[.val (.int p1)] [(.int (8204 : Int32)), (.int p1)])) (fun t k => XS.sipush X7.here hx rfl (hb hby d3_88) k) ?_
                refine Goes.st (U' := T7.setTop (mkF m 94 #[.val (.int p1)] [(.int (8205 : Int32)), (.int (8204 : Int32)), (.int p1)])) (fun t k => XS.sipush X7.here hx rfl (hb hby d3_91) k) ?_
                obtain ⟨_, _, ⟨T8, L8, k8, n8⟩, -, X8, ⟨Lc8, hQ8, l8, y8, z8⟩, st8⟩ := Jvm.LawKit.callS X7 hx (y := (⟨"com/example/chaise/chaise/formats/TermTokenizerIsNameStartPinLaw", "in", "(III)Z"⟩ : MethodName)) hown (mvT hZ (hw _ (List.mem_of_getElem? (i := 13) rfl))) (mvT hZ (hw _ (List.mem_of_getElem? (i := 14) rfl))) (mvT hZ (hw _ (List.mem_of_getElem? (i := 2) rfl))) (mvT hZ (hw _ (List.mem_of_getElem? (i := 15) rfl))) (by decide) (backOf (W := 0) (rm4 l Z a0 hw [] p1 (8204 : Int32) (8205 : Int32) h0 n0 Z0) hZ (hw _ (List.mem_of_getElem? (i := 15) rfl)) (hw _ (List.mem_of_getElem? (i := 2) rfl)) (by decide) (by decide)) (g := (mkF m 94 #[.val (.int p1)] [(.int (8205 : Int32)), (.int (8204 : Int32)), (.int p1)])) rfl (by rw [hml]; rfl) (argsL := [(.int p1), (.int (8204 : Int32)), (.int (8205 : Int32))]) (rest := []) (lenOf pd_0 rfl) rfl (by show 2 * 0 + _ ≤ _; exact Nat.le_of_eq rfl) (hb hby d3_94) (fun _ _ => ⟨rfl, e7, (by decide : 0 + 0 ≤ _), (by decide : 0 + 0 ≤ _)⟩)
                dsimp only [Pt.U, Pt.locs, Pt.cells, Pt.slots] at X8 l8 y8 z8 st8 hQ8
                subst l8 y8 z8
                obtain ⟨rfl, N8q, e8⟩ := hQ8
                have N8 := Fr.app N7 N8q
                refine Goes.st (U' := T8.setTop (mkF m 97 #[.val (.int p1)] [(.int (fnin p1 (8204 : Int32) (8205 : Int32)))])) st8 ?_
                rcases Decidable.em ((fnin p1 (8204 : Int32) (8205 : Int32)) = (0 : Int32)) with hc97 | hc97
                · refine Goes.st (U' := T8.setTop (mkF m 100 #[.val (.int p1)] [])) (fun t k => XS.ifNo X8.here hx rfl (hb hby d3_97) rfl ((if0 _ _).trans (teq hc97).2) k) ?_
                  refine Goes.st (U' := T8.setTop (mkF m 101 #[.val (.int p1)] [(.int p1)])) (fun t k => XS.iloadN X8.here hx rfl (hb hby d3_100) rfl k) ?_
                  refine Goes.st (U' := T8.setTop (mkF m 104 #[.val (.int p1)] [(.int (8304 : Int32)), (.int p1)])) (fun t k => XS.sipush X8.here hx rfl (hb hby d3_101) k) ?_
                  refine Goes.st (U' := T8.setTop (mkF m 107 #[.val (.int p1)] [(.int (8591 : Int32)), (.int (8304 : Int32)), (.int p1)])) (fun t k => XS.sipush X8.here hx rfl (hb hby d3_104) k) ?_
                  obtain ⟨_, _, ⟨T9, L9, k9, n9⟩, -, X9, ⟨Lc9, hQ9, l9, y9, z9⟩, st9⟩ := Jvm.LawKit.callS X8 hx (y := (⟨"com/example/chaise/chaise/formats/TermTokenizerIsNameStartPinLaw", "in", "(III)Z"⟩ : MethodName)) hown (mvT hZ (hw _ (List.mem_of_getElem? (i := 13) rfl))) (mvT hZ (hw _ (List.mem_of_getElem? (i := 14) rfl))) (mvT hZ (hw _ (List.mem_of_getElem? (i := 2) rfl))) (mvT hZ (hw _ (List.mem_of_getElem? (i := 15) rfl))) (by decide) (backOf (W := 0) (rm4 l Z a0 hw [] p1 (8304 : Int32) (8591 : Int32) h0 n0 Z0) hZ (hw _ (List.mem_of_getElem? (i := 15) rfl)) (hw _ (List.mem_of_getElem? (i := 2) rfl)) (by decide) (by decide)) (g := (mkF m 107 #[.val (.int p1)] [(.int (8591 : Int32)), (.int (8304 : Int32)), (.int p1)])) rfl (by rw [hml]; rfl) (argsL := [(.int p1), (.int (8304 : Int32)), (.int (8591 : Int32))]) (rest := []) (lenOf pd_0 rfl) rfl (by show 2 * 0 + _ ≤ _; exact Nat.le_of_eq rfl) (hb hby d3_107) (fun _ _ => ⟨rfl, e8, (by decide : 0 + 0 ≤ _), (by decide : 0 + 0 ≤ _)⟩)
                  dsimp only [Pt.U, Pt.locs, Pt.cells, Pt.slots] at X9 l9 y9 z9 st9 hQ9
                  subst l9 y9 z9
                  obtain ⟨rfl, N9q, e9⟩ := hQ9
                  have N9 := Fr.app N8 N9q
                  refine Goes.st (U' := T9.setTop (mkF m 110 #[.val (.int p1)] [(.int (fnin p1 (8304 : Int32) (8591 : Int32)))])) st9 ?_
                  rcases Decidable.em ((fnin p1 (8304 : Int32) (8591 : Int32)) = (0 : Int32)) with hc110 | hc110
                  · refine Goes.st (U' := T9.setTop (mkF m 113 #[.val (.int p1)] [])) (fun t k => XS.ifNo X9.here hx rfl (hb hby d3_110) rfl ((if0 _ _).trans (teq hc110).2) k) ?_
                    refine Goes.st (U' := T9.setTop (mkF m 114 #[.val (.int p1)] [(.int p1)])) (fun t k => XS.iloadN X9.here hx rfl (hb hby d3_113) rfl k) ?_
                    refine Goes.st (U' := T9.setTop (mkF m 117 #[.val (.int p1)] [(.int (11264 : Int32)), (.int p1)])) (fun t k => XS.sipush X9.here hx rfl (hb hby d3_114) k) ?_
                    refine Goes.st (U' := T9.setTop (mkF m 120 #[.val (.int p1)] [(.int (12271 : Int32)), (.int (11264 : Int32)), (.int p1)])) (fun t k => XS.sipush X9.here hx rfl (hb hby d3_117) k) ?_
                    obtain ⟨_, _, ⟨T10, L10, k10, n10⟩, -, X10, ⟨Lc10, hQ10, l10, y10, z10⟩, st10⟩ := Jvm.LawKit.callS X9 hx (y := (⟨"com/example/chaise/chaise/formats/TermTokenizerIsNameStartPinLaw", "in", "(III)Z"⟩ : MethodName)) hown (mvT hZ (hw _ (List.mem_of_getElem? (i := 13) rfl))) (mvT hZ (hw _ (List.mem_of_getElem? (i := 14) rfl))) (mvT hZ (hw _ (List.mem_of_getElem? (i := 2) rfl))) (mvT hZ (hw _ (List.mem_of_getElem? (i := 15) rfl))) (by decide) (backOf (W := 0) (rm4 l Z a0 hw [] p1 (11264 : Int32) (12271 : Int32) h0 n0 Z0) hZ (hw _ (List.mem_of_getElem? (i := 15) rfl)) (hw _ (List.mem_of_getElem? (i := 2) rfl)) (by decide) (by decide)) (g := (mkF m 120 #[.val (.int p1)] [(.int (12271 : Int32)), (.int (11264 : Int32)), (.int p1)])) rfl (by rw [hml]; rfl) (argsL := [(.int p1), (.int (11264 : Int32)), (.int (12271 : Int32))]) (rest := []) (lenOf pd_0 rfl) rfl (by show 2 * 0 + _ ≤ _; exact Nat.le_of_eq rfl) (hb hby d3_120) (fun _ _ => ⟨rfl, e9, (by decide : 0 + 0 ≤ _), (by decide : 0 + 0 ≤ _)⟩)
                    dsimp only [Pt.U, Pt.locs, Pt.cells, Pt.slots] at X10 l10 y10 z10 st10 hQ10
                    subst l10 y10 z10
                    obtain ⟨rfl, N10q, e10⟩ := hQ10
                    have N10 := Fr.app N9 N10q
                    refine Goes.st (U' := T10.setTop (mkF m 123 #[.val (.int p1)] [(.int (fnin p1 (11264 : Int32) (12271 : Int32)))])) st10 ?_
                    rcases Decidable.em ((fnin p1 (11264 : Int32) (12271 : Int32)) = (0 : Int32)) with hc123 | hc123
                    · refine Goes.st (U' := T10.setTop (mkF m 126 #[.val (.int p1)] [])) (fun t k => XS.ifNo X10.here hx rfl (hb hby d3_123) rfl ((if0 _ _).trans (teq hc123).2) k) ?_
                      refine Goes.st (U' := T10.setTop (mkF m 127 #[.val (.int p1)] [(.int p1)])) (fun t k => XS.iloadN X10.here hx rfl (hb hby d3_126) rfl k) ?_
                      refine Goes.st (U' := T10.setTop (mkF m 130 #[.val (.int p1)] [(.int (12289 : Int32)), (.int p1)])) (fun t k => XS.sipush X10.here hx rfl (hb hby d3_127) k) ?_
                      refine Goes.st (U' := T10.setTop (mkF m 132 #[.val (.int p1)] [(.int (55295 : Int32)), (.int (12289 : Int32)), (.int p1)])) (fun t k => X10.ldcInt hx hown (mvT hZ (hw _ (List.mem_of_getElem? (i := 16) rfl))) (g := (mkF m 130 #[.val (.int p1)] [(.int (12289 : Int32)), (.int p1)])) rfl (hb hby d3_130) t k) ?_
                      obtain ⟨_, _, ⟨T11, L11, k11, n11⟩, -, X11, ⟨Lc11, hQ11, l11, y11, z11⟩, st11⟩ := Jvm.LawKit.callS X10 hx (y := (⟨"com/example/chaise/chaise/formats/TermTokenizerIsNameStartPinLaw", "in", "(III)Z"⟩ : MethodName)) hown (mvT hZ (hw _ (List.mem_of_getElem? (i := 13) rfl))) (mvT hZ (hw _ (List.mem_of_getElem? (i := 14) rfl))) (mvT hZ (hw _ (List.mem_of_getElem? (i := 2) rfl))) (mvT hZ (hw _ (List.mem_of_getElem? (i := 15) rfl))) (by decide) (backOf (W := 0) (rm4 l Z a0 hw [] p1 (12289 : Int32) (55295 : Int32) h0 n0 Z0) hZ (hw _ (List.mem_of_getElem? (i := 15) rfl)) (hw _ (List.mem_of_getElem? (i := 2) rfl)) (by decide) (by decide)) (g := (mkF m 132 #[.val (.int p1)] [(.int (55295 : Int32)), (.int (12289 : Int32)), (.int p1)])) rfl (by rw [hml]; rfl) (argsL := [(.int p1), (.int (12289 : Int32)), (.int (55295 : Int32))]) (rest := []) (lenOf pd_0 rfl) rfl (by show 2 * 0 + _ ≤ _; exact Nat.le_of_eq rfl) (hb hby d3_132) (fun _ _ => ⟨rfl, e10, (by decide : 0 + 0 ≤ _), (by decide : 0 + 0 ≤ _)⟩)
                      dsimp only [Pt.U, Pt.locs, Pt.cells, Pt.slots] at X11 l11 y11 z11 st11 hQ11
                      subst l11 y11 z11
                      obtain ⟨rfl, N11q, e11⟩ := hQ11
                      have N11 := Fr.app N10 N11q
                      refine Goes.st (U' := T11.setTop (mkF m 135 #[.val (.int p1)] [(.int (fnin p1 (12289 : Int32) (55295 : Int32)))])) st11 ?_
                      rcases Decidable.em ((fnin p1 (12289 : Int32) (55295 : Int32)) = (0 : Int32)) with hc135 | hc135
                      · refine Goes.st (U' := T11.setTop (mkF m 138 #[.val (.int p1)] [])) (fun t k => XS.ifNo X11.here hx rfl (hb hby d3_135) rfl ((if0 _ _).trans (teq hc135).2) k) ?_
                        refine Goes.st (U' := T11.setTop (mkF m 139 #[.val (.int p1)] [(.int p1)])) (fun t k => XS.iloadN X11.here hx rfl (hb hby d3_138) rfl k) ?_
                        refine Goes.st (U' := T11.setTop (mkF m 141 #[.val (.int p1)] [(.int (63744 : Int32)), (.int p1)])) (fun t k => X11.ldcInt hx hown (mvT hZ (hw _ (List.mem_of_getElem? (i := 17) rfl))) (g := (mkF m 139 #[.val (.int p1)] [(.int p1)])) rfl (hb hby d3_139) t k) ?_
                        refine Goes.st (U' := T11.setTop (mkF m 143 #[.val (.int p1)] [(.int (64975 : Int32)), (.int (63744 : Int32)), (.int p1)])) (fun t k => X11.ldcInt hx hown (mvT hZ (hw _ (List.mem_of_getElem? (i := 18) rfl))) (g := (mkF m 141 #[.val (.int p1)] [(.int (63744 : Int32)), (.int p1)])) rfl (hb hby d3_141) t k) ?_
                        obtain ⟨_, _, ⟨T12, L12, k12, n12⟩, -, X12, ⟨Lc12, hQ12, l12, y12, z12⟩, st12⟩ := Jvm.LawKit.callS X11 hx (y := (⟨"com/example/chaise/chaise/formats/TermTokenizerIsNameStartPinLaw", "in", "(III)Z"⟩ : MethodName)) hown (mvT hZ (hw _ (List.mem_of_getElem? (i := 13) rfl))) (mvT hZ (hw _ (List.mem_of_getElem? (i := 14) rfl))) (mvT hZ (hw _ (List.mem_of_getElem? (i := 2) rfl))) (mvT hZ (hw _ (List.mem_of_getElem? (i := 15) rfl))) (by decide) (backOf (W := 0) (rm4 l Z a0 hw [] p1 (63744 : Int32) (64975 : Int32) h0 n0 Z0) hZ (hw _ (List.mem_of_getElem? (i := 15) rfl)) (hw _ (List.mem_of_getElem? (i := 2) rfl)) (by decide) (by decide)) (g := (mkF m 143 #[.val (.int p1)] [(.int (64975 : Int32)), (.int (63744 : Int32)), (.int p1)])) rfl (by rw [hml]; rfl) (argsL := [(.int p1), (.int (63744 : Int32)), (.int (64975 : Int32))]) (rest := []) (lenOf pd_0 rfl) rfl (by show 2 * 0 + _ ≤ _; exact Nat.le_of_eq rfl) (hb hby d3_143) (fun _ _ => ⟨rfl, e11, (by decide : 0 + 0 ≤ _), (by decide : 0 + 0 ≤ _)⟩)
                        dsimp only [Pt.U, Pt.locs, Pt.cells, Pt.slots] at X12 l12 y12 z12 st12 hQ12
                        subst l12 y12 z12
                        obtain ⟨rfl, N12q, e12⟩ := hQ12
                        have N12 := Fr.app N11 N12q
                        refine Goes.st (U' := T12.setTop (mkF m 146 #[.val (.int p1)] [(.int (fnin p1 (63744 : Int32) (64975 : Int32)))])) st12 ?_
                        rcases Decidable.em ((fnin p1 (63744 : Int32) (64975 : Int32)) = (0 : Int32)) with hc146 | hc146
                        · refine Goes.st (U' := T12.setTop (mkF m 149 #[.val (.int p1)] [])) (fun t k => XS.ifNo X12.here hx rfl (hb hby d3_146) rfl ((if0 _ _).trans (teq hc146).2) k) ?_
                          refine Goes.st (U' := T12.setTop (mkF m 150 #[.val (.int p1)] [(.int p1)])) (fun t k => XS.iloadN X12.here hx rfl (hb hby d3_149) rfl k) ?_
                          refine Goes.st (U' := T12.setTop (mkF m 152 #[.val (.int p1)] [(.int (65008 : Int32)), (.int p1)])) (fun t k => X12.ldcInt hx hown (mvT hZ (hw _ (List.mem_of_getElem? (i := 19) rfl))) (g := (mkF m 150 #[.val (.int p1)] [(.int p1)])) rfl (hb hby d3_150) t k) ?_
                          refine Goes.st (U' := T12.setTop (mkF m 154 #[.val (.int p1)] [(.int (65533 : Int32)), (.int (65008 : Int32)), (.int p1)])) (fun t k => X12.ldcInt hx hown (mvT hZ (hw _ (List.mem_of_getElem? (i := 20) rfl))) (g := (mkF m 152 #[.val (.int p1)] [(.int (65008 : Int32)), (.int p1)])) rfl (hb hby d3_152) t k) ?_
                          obtain ⟨_, _, ⟨T13, L13, k13, n13⟩, -, X13, ⟨Lc13, hQ13, l13, y13, z13⟩, st13⟩ := Jvm.LawKit.callS X12 hx (y := (⟨"com/example/chaise/chaise/formats/TermTokenizerIsNameStartPinLaw", "in", "(III)Z"⟩ : MethodName)) hown (mvT hZ (hw _ (List.mem_of_getElem? (i := 13) rfl))) (mvT hZ (hw _ (List.mem_of_getElem? (i := 14) rfl))) (mvT hZ (hw _ (List.mem_of_getElem? (i := 2) rfl))) (mvT hZ (hw _ (List.mem_of_getElem? (i := 15) rfl))) (by decide) (backOf (W := 0) (rm4 l Z a0 hw [] p1 (65008 : Int32) (65533 : Int32) h0 n0 Z0) hZ (hw _ (List.mem_of_getElem? (i := 15) rfl)) (hw _ (List.mem_of_getElem? (i := 2) rfl)) (by decide) (by decide)) (g := (mkF m 154 #[.val (.int p1)] [(.int (65533 : Int32)), (.int (65008 : Int32)), (.int p1)])) rfl (by rw [hml]; rfl) (argsL := [(.int p1), (.int (65008 : Int32)), (.int (65533 : Int32))]) (rest := []) (lenOf pd_0 rfl) rfl (by show 2 * 0 + _ ≤ _; exact Nat.le_of_eq rfl) (hb hby d3_154) (fun _ _ => ⟨rfl, e12, (by decide : 0 + 0 ≤ _), (by decide : 0 + 0 ≤ _)⟩)
                          dsimp only [Pt.U, Pt.locs, Pt.cells, Pt.slots] at X13 l13 y13 z13 st13 hQ13
                          subst l13 y13 z13
                          obtain ⟨rfl, N13q, e13⟩ := hQ13
                          have N13 := Fr.app N12 N13q
                          refine Goes.st (U' := T13.setTop (mkF m 157 #[.val (.int p1)] [(.int (fnin p1 (65008 : Int32) (65533 : Int32)))])) st13 ?_
                          rcases Decidable.em ((fnin p1 (65008 : Int32) (65533 : Int32)) = (0 : Int32)) with hc157 | hc157
                          · refine Goes.st (U' := T13.setTop (mkF m 160 #[.val (.int p1)] [])) (fun t k => XS.ifNo X13.here hx rfl (hb hby d3_157) rfl ((if0 _ _).trans (teq hc157).2) k) ?_
                            refine Goes.st (U' := T13.setTop (mkF m 161 #[.val (.int p1)] [(.int p1)])) (fun t k => XS.iloadN X13.here hx rfl (hb hby d3_160) rfl k) ?_
                            refine Goes.st (U' := T13.setTop (mkF m 163 #[.val (.int p1)] [(.int (65536 : Int32)), (.int p1)])) (fun t k => X13.ldcInt hx hown (mvT hZ (hw _ (List.mem_of_getElem? (i := 21) rfl))) (g := (mkF m 161 #[.val (.int p1)] [(.int p1)])) rfl (hb hby d3_161) t k) ?_
                            refine Goes.st (U' := T13.setTop (mkF m 165 #[.val (.int p1)] [(.int (983039 : Int32)), (.int (65536 : Int32)), (.int p1)])) (fun t k => X13.ldcInt hx hown (mvT hZ (hw _ (List.mem_of_getElem? (i := 22) rfl))) (g := (mkF m 163 #[.val (.int p1)] [(.int (65536 : Int32)), (.int p1)])) rfl (hb hby d3_163) t k) ?_
                            obtain ⟨_, _, ⟨T14, L14, k14, n14⟩, -, X14, ⟨Lc14, hQ14, l14, y14, z14⟩, st14⟩ := Jvm.LawKit.callS X13 hx (y := (⟨"com/example/chaise/chaise/formats/TermTokenizerIsNameStartPinLaw", "in", "(III)Z"⟩ : MethodName)) hown (mvT hZ (hw _ (List.mem_of_getElem? (i := 13) rfl))) (mvT hZ (hw _ (List.mem_of_getElem? (i := 14) rfl))) (mvT hZ (hw _ (List.mem_of_getElem? (i := 2) rfl))) (mvT hZ (hw _ (List.mem_of_getElem? (i := 15) rfl))) (by decide) (backOf (W := 0) (rm4 l Z a0 hw [] p1 (65536 : Int32) (983039 : Int32) h0 n0 Z0) hZ (hw _ (List.mem_of_getElem? (i := 15) rfl)) (hw _ (List.mem_of_getElem? (i := 2) rfl)) (by decide) (by decide)) (g := (mkF m 165 #[.val (.int p1)] [(.int (983039 : Int32)), (.int (65536 : Int32)), (.int p1)])) rfl (by rw [hml]; rfl) (argsL := [(.int p1), (.int (65536 : Int32)), (.int (983039 : Int32))]) (rest := []) (lenOf pd_0 rfl) rfl (by show 2 * 0 + _ ≤ _; exact Nat.le_of_eq rfl) (hb hby d3_165) (fun _ _ => ⟨rfl, e13, (by decide : 0 + 0 ≤ _), (by decide : 0 + 0 ≤ _)⟩)
                            dsimp only [Pt.U, Pt.locs, Pt.cells, Pt.slots] at X14 l14 y14 z14 st14 hQ14
                            subst l14 y14 z14
                            obtain ⟨rfl, N14q, e14⟩ := hQ14
                            have N14 := Fr.app N13 N14q
                            refine Goes.st (U' := T14.setTop (mkF m 168 #[.val (.int p1)] [(.int (fnin p1 (65536 : Int32) (983039 : Int32)))])) st14 ?_
                            rcases Decidable.em ((fnin p1 (65536 : Int32) (983039 : Int32)) = (0 : Int32)) with hc168 | hc168
                            · refine Goes.st (U' := T14.setTop (mkF m 175 #[.val (.int p1)] [])) (fun t k => XS.ifYes X14.here hx rfl (pc0 := 168) (pc' := 175) rfl (hb hby d3_168) rfl ((if0 _ _).trans (teq hc168).1) (by decide) (by decide) k) ?_
                              refine Goes.st (U' := T14.setTop (mkF m 176 #[.val (.int p1)] [(.int (0 : Int32))])) (fun t k => XS.iconst X14.here hx rfl (hb hby d3_175) k) ?_
                              refine Goes.retZ X14 hx (BodyLoose.notSynchronized Bd) Bd.returns (hb hby d3_176) rfl (by decide) (by decide) ?_
                              show Q3 Z p1 h0 n0 _ T14.heap _
                              rw [e14]
                              exact ⟨(congrArg some (congrArg _ (by unfold fnref; rw [if_pos hc8]; rw [if_pos hc19]; rw [if_pos hc32]; rw [if_pos hc45]; rw [if_pos hc58]; rw [if_pos hc71]; rw [if_pos hc84]; rw [if_pos hc97]; rw [if_pos hc110]; rw [if_pos hc123]; rw [if_pos hc135]; rw [if_pos hc146]; rw [if_pos hc157]; rw [if_pos hc168]))), N14, rfl⟩
                            · refine Goes.st (U' := T14.setTop (mkF m 171 #[.val (.int p1)] [])) (fun t k => XS.ifNo X14.here hx rfl (hb hby d3_168) rfl ((if0 _ _).trans (feq hc168).1) k) ?_
                              refine Goes.st (U' := T14.setTop (mkF m 172 #[.val (.int p1)] [(.int (1 : Int32))])) (fun t k => XS.iconst X14.here hx rfl (hb hby d3_171) k) ?_
                              refine Goes.st (U' := T14.setTop (mkF m 176 #[.val (.int p1)] [(.int (1 : Int32))])) (fun t k => XS.goto X14.here hx rfl (pc0 := 172) (pc' := 176) rfl (hb hby d3_172) (by decide) (by decide) k) ?_
                              refine Goes.retZ X14 hx (BodyLoose.notSynchronized Bd) Bd.returns (hb hby d3_176) rfl (by decide) (by decide) ?_
                              show Q3 Z p1 h0 n0 _ T14.heap _
                              rw [e14]
                              exact ⟨(congrArg some (congrArg _ (by unfold fnref; rw [if_pos hc8]; rw [if_pos hc19]; rw [if_pos hc32]; rw [if_pos hc45]; rw [if_pos hc58]; rw [if_pos hc71]; rw [if_pos hc84]; rw [if_pos hc97]; rw [if_pos hc110]; rw [if_pos hc123]; rw [if_pos hc135]; rw [if_pos hc146]; rw [if_pos hc157]; rw [if_neg hc168]))), N14, rfl⟩
                          · refine Goes.st (U' := T13.setTop (mkF m 171 #[.val (.int p1)] [])) (fun t k => XS.ifYes X13.here hx rfl (pc0 := 157) (pc' := 171) rfl (hb hby d3_157) rfl ((if0 _ _).trans (feq hc157).2) (by decide) (by decide) k) ?_
                            refine Goes.st (U' := T13.setTop (mkF m 172 #[.val (.int p1)] [(.int (1 : Int32))])) (fun t k => XS.iconst X13.here hx rfl (hb hby d3_171) k) ?_
                            refine Goes.st (U' := T13.setTop (mkF m 176 #[.val (.int p1)] [(.int (1 : Int32))])) (fun t k => XS.goto X13.here hx rfl (pc0 := 172) (pc' := 176) rfl (hb hby d3_172) (by decide) (by decide) k) ?_
                            refine Goes.retZ X13 hx (BodyLoose.notSynchronized Bd) Bd.returns (hb hby d3_176) rfl (by decide) (by decide) ?_
                            show Q3 Z p1 h0 n0 _ T13.heap _
                            rw [e13]
                            exact ⟨(congrArg some (congrArg _ (by unfold fnref; rw [if_pos hc8]; rw [if_pos hc19]; rw [if_pos hc32]; rw [if_pos hc45]; rw [if_pos hc58]; rw [if_pos hc71]; rw [if_pos hc84]; rw [if_pos hc97]; rw [if_pos hc110]; rw [if_pos hc123]; rw [if_pos hc135]; rw [if_pos hc146]; rw [if_neg hc157]))), N13, rfl⟩
                        · refine Goes.st (U' := T12.setTop (mkF m 171 #[.val (.int p1)] [])) (fun t k => XS.ifYes X12.here hx rfl (pc0 := 146) (pc' := 171) rfl (hb hby d3_146) rfl ((if0 _ _).trans (feq hc146).2) (by decide) (by decide) k) ?_
                          refine Goes.st (U' := T12.setTop (mkF m 172 #[.val (.int p1)] [(.int (1 : Int32))])) (fun t k => XS.iconst X12.here hx rfl (hb hby d3_171) k) ?_
                          refine Goes.st (U' := T12.setTop (mkF m 176 #[.val (.int p1)] [(.int (1 : Int32))])) (fun t k => XS.goto X12.here hx rfl (pc0 := 172) (pc' := 176) rfl (hb hby d3_172) (by decide) (by decide) k) ?_
                          refine Goes.retZ X12 hx (BodyLoose.notSynchronized Bd) Bd.returns (hb hby d3_176) rfl (by decide) (by decide) ?_
                          show Q3 Z p1 h0 n0 _ T12.heap _
                          rw [e12]
                          exact ⟨(congrArg some (congrArg _ (by unfold fnref; rw [if_pos hc8]; rw [if_pos hc19]; rw [if_pos hc32]; rw [if_pos hc45]; rw [if_pos hc58]; rw [if_pos hc71]; rw [if_pos hc84]; rw [if_pos hc97]; rw [if_pos hc110]; rw [if_pos hc123]; rw [if_pos hc135]; rw [if_neg hc146]))), N12, rfl⟩
                      · refine Goes.st (U' := T11.setTop (mkF m 171 #[.val (.int p1)] [])) (fun t k => XS.ifYes X11.here hx rfl (pc0 := 135) (pc' := 171) rfl (hb hby d3_135) rfl ((if0 _ _).trans (feq hc135).2) (by decide) (by decide) k) ?_
                        refine Goes.st (U' := T11.setTop (mkF m 172 #[.val (.int p1)] [(.int (1 : Int32))])) (fun t k => XS.iconst X11.here hx rfl (hb hby d3_171) k) ?_
                        refine Goes.st (U' := T11.setTop (mkF m 176 #[.val (.int p1)] [(.int (1 : Int32))])) (fun t k => XS.goto X11.here hx rfl (pc0 := 172) (pc' := 176) rfl (hb hby d3_172) (by decide) (by decide) k) ?_
                        refine Goes.retZ X11 hx (BodyLoose.notSynchronized Bd) Bd.returns (hb hby d3_176) rfl (by decide) (by decide) ?_
                        show Q3 Z p1 h0 n0 _ T11.heap _
                        rw [e11]
                        exact ⟨(congrArg some (congrArg _ (by unfold fnref; rw [if_pos hc8]; rw [if_pos hc19]; rw [if_pos hc32]; rw [if_pos hc45]; rw [if_pos hc58]; rw [if_pos hc71]; rw [if_pos hc84]; rw [if_pos hc97]; rw [if_pos hc110]; rw [if_pos hc123]; rw [if_neg hc135]))), N11, rfl⟩
                    · refine Goes.st (U' := T10.setTop (mkF m 171 #[.val (.int p1)] [])) (fun t k => XS.ifYes X10.here hx rfl (pc0 := 123) (pc' := 171) rfl (hb hby d3_123) rfl ((if0 _ _).trans (feq hc123).2) (by decide) (by decide) k) ?_
                      refine Goes.st (U' := T10.setTop (mkF m 172 #[.val (.int p1)] [(.int (1 : Int32))])) (fun t k => XS.iconst X10.here hx rfl (hb hby d3_171) k) ?_
                      refine Goes.st (U' := T10.setTop (mkF m 176 #[.val (.int p1)] [(.int (1 : Int32))])) (fun t k => XS.goto X10.here hx rfl (pc0 := 172) (pc' := 176) rfl (hb hby d3_172) (by decide) (by decide) k) ?_
                      refine Goes.retZ X10 hx (BodyLoose.notSynchronized Bd) Bd.returns (hb hby d3_176) rfl (by decide) (by decide) ?_
                      show Q3 Z p1 h0 n0 _ T10.heap _
                      rw [e10]
                      exact ⟨(congrArg some (congrArg _ (by unfold fnref; rw [if_pos hc8]; rw [if_pos hc19]; rw [if_pos hc32]; rw [if_pos hc45]; rw [if_pos hc58]; rw [if_pos hc71]; rw [if_pos hc84]; rw [if_pos hc97]; rw [if_pos hc110]; rw [if_neg hc123]))), N10, rfl⟩
                  · refine Goes.st (U' := T9.setTop (mkF m 171 #[.val (.int p1)] [])) (fun t k => XS.ifYes X9.here hx rfl (pc0 := 110) (pc' := 171) rfl (hb hby d3_110) rfl ((if0 _ _).trans (feq hc110).2) (by decide) (by decide) k) ?_
                    refine Goes.st (U' := T9.setTop (mkF m 172 #[.val (.int p1)] [(.int (1 : Int32))])) (fun t k => XS.iconst X9.here hx rfl (hb hby d3_171) k) ?_
                    refine Goes.st (U' := T9.setTop (mkF m 176 #[.val (.int p1)] [(.int (1 : Int32))])) (fun t k => XS.goto X9.here hx rfl (pc0 := 172) (pc' := 176) rfl (hb hby d3_172) (by decide) (by decide) k) ?_
                    refine Goes.retZ X9 hx (BodyLoose.notSynchronized Bd) Bd.returns (hb hby d3_176) rfl (by decide) (by decide) ?_
                    show Q3 Z p1 h0 n0 _ T9.heap _
                    rw [e9]
                    exact ⟨(congrArg some (congrArg _ (by unfold fnref; rw [if_pos hc8]; rw [if_pos hc19]; rw [if_pos hc32]; rw [if_pos hc45]; rw [if_pos hc58]; rw [if_pos hc71]; rw [if_pos hc84]; rw [if_pos hc97]; rw [if_neg hc110]))), N9, rfl⟩
                · refine Goes.st (U' := T8.setTop (mkF m 171 #[.val (.int p1)] [])) (fun t k => XS.ifYes X8.here hx rfl (pc0 := 97) (pc' := 171) rfl (hb hby d3_97) rfl ((if0 _ _).trans (feq hc97).2) (by decide) (by decide) k) ?_
                  refine Goes.st (U' := T8.setTop (mkF m 172 #[.val (.int p1)] [(.int (1 : Int32))])) (fun t k => XS.iconst X8.here hx rfl (hb hby d3_171) k) ?_
                  refine Goes.st (U' := T8.setTop (mkF m 176 #[.val (.int p1)] [(.int (1 : Int32))])) (fun t k => XS.goto X8.here hx rfl (pc0 := 172) (pc' := 176) rfl (hb hby d3_172) (by decide) (by decide) k) ?_
                  refine Goes.retZ X8 hx (BodyLoose.notSynchronized Bd) Bd.returns (hb hby d3_176) rfl (by decide) (by decide) ?_
                  show Q3 Z p1 h0 n0 _ T8.heap _
                  rw [e8]
                  exact ⟨(congrArg some (congrArg _ (by unfold fnref; rw [if_pos hc8]; rw [if_pos hc19]; rw [if_pos hc32]; rw [if_pos hc45]; rw [if_pos hc58]; rw [if_pos hc71]; rw [if_pos hc84]; rw [if_neg hc97]))), N8, rfl⟩
              · refine Goes.st (U' := T7.setTop (mkF m 171 #[.val (.int p1)] [])) (fun t k => XS.ifYes X7.here hx rfl (pc0 := 84) (pc' := 171) rfl (hb hby d3_84) rfl ((if0 _ _).trans (feq hc84).2) (by decide) (by decide) k) ?_
                refine Goes.st (U' := T7.setTop (mkF m 172 #[.val (.int p1)] [(.int (1 : Int32))])) (fun t k => XS.iconst X7.here hx rfl (hb hby d3_171) k) ?_
                refine Goes.st (U' := T7.setTop (mkF m 176 #[.val (.int p1)] [(.int (1 : Int32))])) (fun t k => XS.goto X7.here hx rfl (pc0 := 172) (pc' := 176) rfl (hb hby d3_172) (by decide) (by decide) k) ?_
                refine Goes.retZ X7 hx (BodyLoose.notSynchronized Bd) Bd.returns (hb hby d3_176) rfl (by decide) (by decide) ?_
                show Q3 Z p1 h0 n0 _ T7.heap _
                rw [e7]
                exact ⟨(congrArg some (congrArg _ (by unfold fnref; rw [if_pos hc8]; rw [if_pos hc19]; rw [if_pos hc32]; rw [if_pos hc45]; rw [if_pos hc58]; rw [if_pos hc71]; rw [if_neg hc84]))), N7, rfl⟩
            · refine Goes.st (U' := T6.setTop (mkF m 171 #[.val (.int p1)] [])) (fun t k => XS.ifYes X6.here hx rfl (pc0 := 71) (pc' := 171) rfl (hb hby d3_71) rfl ((if0 _ _).trans (feq hc71).2) (by decide) (by decide) k) ?_
              refine Goes.st (U' := T6.setTop (mkF m 172 #[.val (.int p1)] [(.int (1 : Int32))])) (fun t k => XS.iconst X6.here hx rfl (hb hby d3_171) k) ?_
              refine Goes.st (U' := T6.setTop (mkF m 176 #[.val (.int p1)] [(.int (1 : Int32))])) (fun t k => XS.goto X6.here hx rfl (pc0 := 172) (pc' := 176) rfl (hb hby d3_172) (by decide) (by decide) k) ?_
              refine Goes.retZ X6 hx (BodyLoose.notSynchronized Bd) Bd.returns (hb hby d3_176) rfl (by decide) (by decide) ?_
              show Q3 Z p1 h0 n0 _ T6.heap _
              rw [e6]
              exact ⟨(congrArg some (congrArg _ (by unfold fnref; rw [if_pos hc8]; rw [if_pos hc19]; rw [if_pos hc32]; rw [if_pos hc45]; rw [if_pos hc58]; rw [if_neg hc71]))), N6, rfl⟩
          · refine Goes.st (U' := T5.setTop (mkF m 171 #[.val (.int p1)] [])) (fun t k => XS.ifYes X5.here hx rfl (pc0 := 58) (pc' := 171) rfl (hb hby d3_58) rfl ((if0 _ _).trans (feq hc58).2) (by decide) (by decide) k) ?_
            refine Goes.st (U' := T5.setTop (mkF m 172 #[.val (.int p1)] [(.int (1 : Int32))])) (fun t k => XS.iconst X5.here hx rfl (hb hby d3_171) k) ?_
            refine Goes.st (U' := T5.setTop (mkF m 176 #[.val (.int p1)] [(.int (1 : Int32))])) (fun t k => XS.goto X5.here hx rfl (pc0 := 172) (pc' := 176) rfl (hb hby d3_172) (by decide) (by decide) k) ?_
            refine Goes.retZ X5 hx (BodyLoose.notSynchronized Bd) Bd.returns (hb hby d3_176) rfl (by decide) (by decide) ?_
            show Q3 Z p1 h0 n0 _ T5.heap _
            rw [e5]
            exact ⟨(congrArg some (congrArg _ (by unfold fnref; rw [if_pos hc8]; rw [if_pos hc19]; rw [if_pos hc32]; rw [if_pos hc45]; rw [if_neg hc58]))), N5, rfl⟩
        · refine Goes.st (U' := T4.setTop (mkF m 171 #[.val (.int p1)] [])) (fun t k => XS.ifYes X4.here hx rfl (pc0 := 45) (pc' := 171) rfl (hb hby d3_45) rfl ((if0 _ _).trans (feq hc45).2) (by decide) (by decide) k) ?_
          refine Goes.st (U' := T4.setTop (mkF m 172 #[.val (.int p1)] [(.int (1 : Int32))])) (fun t k => XS.iconst X4.here hx rfl (hb hby d3_171) k) ?_
          refine Goes.st (U' := T4.setTop (mkF m 176 #[.val (.int p1)] [(.int (1 : Int32))])) (fun t k => XS.goto X4.here hx rfl (pc0 := 172) (pc' := 176) rfl (hb hby d3_172) (by decide) (by decide) k) ?_
          refine Goes.retZ X4 hx (BodyLoose.notSynchronized Bd) Bd.returns (hb hby d3_176) rfl (by decide) (by decide) ?_
          show Q3 Z p1 h0 n0 _ T4.heap _
          rw [e4]
          exact ⟨(congrArg some (congrArg _ (by unfold fnref; rw [if_pos hc8]; rw [if_pos hc19]; rw [if_pos hc32]; rw [if_neg hc45]))), N4, rfl⟩
      · refine Goes.st (U' := T3.setTop (mkF m 171 #[.val (.int p1)] [])) (fun t k => XS.ifYes X3.here hx rfl (pc0 := 32) (pc' := 171) rfl (hb hby d3_32) rfl ((if0 _ _).trans (feq hc32).2) (by decide) (by decide) k) ?_
        refine Goes.st (U' := T3.setTop (mkF m 172 #[.val (.int p1)] [(.int (1 : Int32))])) (fun t k => XS.iconst X3.here hx rfl (hb hby d3_171) k) ?_
        refine Goes.st (U' := T3.setTop (mkF m 176 #[.val (.int p1)] [(.int (1 : Int32))])) (fun t k => XS.goto X3.here hx rfl (pc0 := 172) (pc' := 176) rfl (hb hby d3_172) (by decide) (by decide) k) ?_
        refine Goes.retZ X3 hx (BodyLoose.notSynchronized Bd) Bd.returns (hb hby d3_176) rfl (by decide) (by decide) ?_
        show Q3 Z p1 h0 n0 _ T3.heap _
        rw [e3]
        exact ⟨(congrArg some (congrArg _ (by unfold fnref; rw [if_pos hc8]; rw [if_pos hc19]; rw [if_neg hc32]))), N3, rfl⟩
    · refine Goes.st (U' := T2.setTop (mkF m 171 #[.val (.int p1)] [])) (fun t k => XS.ifYes X2.here hx rfl (pc0 := 19) (pc' := 171) rfl (hb hby d3_19) rfl ((if0 _ _).trans (feq hc19).2) (by decide) (by decide) k) ?_
      refine Goes.st (U' := T2.setTop (mkF m 172 #[.val (.int p1)] [(.int (1 : Int32))])) (fun t k => XS.iconst X2.here hx rfl (hb hby d3_171) k) ?_
      refine Goes.st (U' := T2.setTop (mkF m 176 #[.val (.int p1)] [(.int (1 : Int32))])) (fun t k => XS.goto X2.here hx rfl (pc0 := 172) (pc' := 176) rfl (hb hby d3_172) (by decide) (by decide) k) ?_
      refine Goes.retZ X2 hx (BodyLoose.notSynchronized Bd) Bd.returns (hb hby d3_176) rfl (by decide) (by decide) ?_
      show Q3 Z p1 h0 n0 _ T2.heap _
      rw [e2]
      exact ⟨(congrArg some (congrArg _ (by unfold fnref; rw [if_pos hc8]; rw [if_neg hc19]))), N2, rfl⟩
  · refine Goes.st (U' := T1.setTop (mkF m 171 #[.val (.int p1)] [])) (fun t k => XS.ifYes X1.here hx rfl (pc0 := 8) (pc' := 171) rfl (hb hby d3_8) rfl ((if0 _ _).trans (feq hc8).2) (by decide) (by decide) k) ?_
    refine Goes.st (U' := T1.setTop (mkF m 172 #[.val (.int p1)] [(.int (1 : Int32))])) (fun t k => XS.iconst X1.here hx rfl (hb hby d3_171) k) ?_
    refine Goes.st (U' := T1.setTop (mkF m 176 #[.val (.int p1)] [(.int (1 : Int32))])) (fun t k => XS.goto X1.here hx rfl (pc0 := 172) (pc' := 176) rfl (hb hby d3_172) (by decide) (by decide) k) ?_
    refine Goes.retZ X1 hx (BodyLoose.notSynchronized Bd) Bd.returns (hb hby d3_176) rfl (by decide) (by decide) ?_
    show Q3 Z p1 h0 n0 _ T1.heap _
    rw [e1]
    exact ⟨(congrArg some (congrArg _ (by unfold fnref; rw [if_neg hc8]))), N1, rfl⟩
theorem d2_0 : decode prog_142_method_9_code 0 = .ok (.iconst 0, 1) := by decide +kernel
theorem d2_1 : decode prog_142_method_9_code 1 = .ok (.istore_n 1, 1) := by decide +kernel
theorem d2_2 : decode prog_142_method_9_code 2 = .ok (.iconst 0, 1) := by decide +kernel
theorem d2_3 : decode prog_142_method_9_code 3 = .ok (.istore_n 2, 1) := by decide +kernel
theorem d2_4 : decode prog_142_method_9_code 4 = .ok (.iload_n 2, 1) := by decide +kernel
theorem d2_5 : decode prog_142_method_9_code 5 = .ok (.getstatic 48, 3) := by decide +kernel
theorem d2_8 : decode prog_142_method_9_code 8 = .ok (.arraylength, 1) := by decide +kernel
theorem d2_9 : decode prog_142_method_9_code 9 = .ok (.if_icmp .ge 39, 3) := by decide +kernel
theorem d2_12 : decode prog_142_method_9_code 12 = .ok (.iload_n 1, 1) := by decide +kernel
theorem d2_13 : decode prog_142_method_9_code 13 = .ok (.ifCond .ne 35, 3) := by decide +kernel
theorem d2_16 : decode prog_142_method_9_code 16 = .ok (.iload_n 0, 1) := by decide +kernel
theorem d2_17 : decode prog_142_method_9_code 17 = .ok (.getstatic 48, 3) := by decide +kernel
theorem d2_20 : decode prog_142_method_9_code 20 = .ok (.iload_n 2, 1) := by decide +kernel
theorem d2_21 : decode prog_142_method_9_code 21 = .ok (.iaload, 1) := by decide +kernel
theorem d2_22 : decode prog_142_method_9_code 22 = .ok (.if_icmp .lt 26, 3) := by decide +kernel
theorem d2_25 : decode prog_142_method_9_code 25 = .ok (.iload_n 0, 1) := by decide +kernel
theorem d2_26 : decode prog_142_method_9_code 26 = .ok (.getstatic 48, 3) := by decide +kernel
theorem d2_29 : decode prog_142_method_9_code 29 = .ok (.iload_n 2, 1) := by decide +kernel
theorem d2_30 : decode prog_142_method_9_code 30 = .ok (.iconst 1, 1) := by decide +kernel
theorem d2_31 : decode prog_142_method_9_code 31 = .ok (.iadd, 1) := by decide +kernel
theorem d2_32 : decode prog_142_method_9_code 32 = .ok (.iaload, 1) := by decide +kernel
theorem d2_33 : decode prog_142_method_9_code 33 = .ok (.if_icmp .gt 7, 3) := by decide +kernel
theorem d2_36 : decode prog_142_method_9_code 36 = .ok (.iconst 1, 1) := by decide +kernel
theorem d2_37 : decode prog_142_method_9_code 37 = .ok (.goto 4, 3) := by decide +kernel
theorem d2_40 : decode prog_142_method_9_code 40 = .ok (.iconst 0, 1) := by decide +kernel
theorem d2_41 : decode prog_142_method_9_code 41 = .ok (.istore_n 1, 1) := by decide +kernel
theorem d2_42 : decode prog_142_method_9_code 42 = .ok (.iinc 2 2, 3) := by decide +kernel
theorem d2_45 : decode prog_142_method_9_code 45 = .ok (.goto (-41), 3) := by decide +kernel
theorem d2_48 : decode prog_142_method_9_code 48 = .ok (.iload_n 1, 1) := by decide +kernel
theorem d2_49 : decode prog_142_method_9_code 49 = .ok (.ireturn, 1) := by decide +kernel
theorem pn_1 : plainName "com/example/chaise/chaise/formats/TermTokenizer" = true := by first | (simp [plainName, overriddenIn]; done) | decide +kernel
theorem ef_rm2 (m : MethodId) (p1 : Int32) : entryFrame m #[(.int p1)] 3 = mkF m 0 #[.val (.int p1), .unset, .unset] [] := by first | (simp [entryFrame, mkF, argsToLocals, Value.category]; done) | rfl
def fnns (p1 : Int32) : Int32 := (if p1 < (65 : Int32) then (0 : Int32) else (if (90 : Int32) < p1 then (if p1 < (97 : Int32) then (0 : Int32) else (if (122 : Int32) < p1 then (if p1 < (192 : Int32) then (0 : Int32) else (if (214 : Int32) < p1 then (if p1 < (216 : Int32) then (0 : Int32) else (if (246 : Int32) < p1 then (if p1 < (248 : Int32) then (0 : Int32) else (if (767 : Int32) < p1 then (if p1 < (880 : Int32) then (0 : Int32) else (if (893 : Int32) < p1 then (if p1 < (895 : Int32) then (0 : Int32) else (if (8191 : Int32) < p1 then (if p1 < (8204 : Int32) then (0 : Int32) else (if (8205 : Int32) < p1 then (if p1 < (8304 : Int32) then (0 : Int32) else (if (8591 : Int32) < p1 then (if p1 < (11264 : Int32) then (0 : Int32) else (if (12271 : Int32) < p1 then (if p1 < (12289 : Int32) then (0 : Int32) else (if (55295 : Int32) < p1 then (if p1 < (63744 : Int32) then (0 : Int32) else (if (64975 : Int32) < p1 then (if p1 < (65008 : Int32) then (0 : Int32) else (if (65533 : Int32) < p1 then (if p1 < (65536 : Int32) then (0 : Int32) else (if (983039 : Int32) < p1 then (0 : Int32) else (1 : Int32))) else (1 : Int32))) else (1 : Int32))) else (1 : Int32))) else (1 : Int32))) else (1 : Int32))) else (1 : Int32))) else (1 : Int32))) else (1 : Int32))) else (1 : Int32))) else (1 : Int32))) else (1 : Int32))) else (1 : Int32))) else (1 : Int32)))
def Q2 (Z : State) (p1 : Int32) (na : Addr) (k : ClassId) (h0 : Heap) (n0 : Nat) (v : Option Value) (h : Heap) (L : List Loc) : Prop := v = some (.int (fnns p1)) ∧ Fr n0 L ∧ h = h0
set_option maxRecDepth 65536 in
set_option maxHeartbeats 40000000 in
theorem rm2 (l : Launch) (Z : State) (a0 : Array Value) (hw : ∀ d ∈ tables_1, d.before a0 Z = true) (ws : List Jvm.Cond) (p1 : Int32) (na : Addr) (k : ClassId) (h0 : Heap) (n0 : Nat) (Z0 : n0 ≤ h0.size) (S_NAME_STARTS : Sta Z h0 "com/example/chaise/chaise/formats/TermTokenizer" "NAME_STARTS" "[I" (.ref na)) (V_na : Arv Z h0 na k .int (28 : Int32) own_ns (.int (0 : Int32))) :
    MetFree l (⟨"com/example/chaise/chaise/formats/TermTokenizer", "isNameStart", "(I)Z"⟩ : MethodName) (head1 (Jvm.Cond.code (⟨"com/example/chaise/chaise/formats/TermTokenizer", "isNameStart", "(I)Z"⟩ : MethodName) prog_142_method_9_code 3 (some .boolean) :: ws) ({ frames := 0, cells := 0, slots := 0, locals := 0 } : Room)) (fun a U => a = #[(.int p1)] ∧ Z.Warmed39 U.vm ∧ U.heap = h0) (fun _ _ _ _ _ => True) (fun _ U o U' => ∃ v L, o = .returned v ∧ Q2 Z p1 na k h0 n0 v U'.heap L ∧ FrameEnd U o U' L ({ frames := 0, cells := 0, slots := 0, locals := 0 } : Room).cells ({ frames := 0, cells := 0, slots := 0, locals := 0 } : Room).slots) := by
  refine MetFree.of_bodySF (plainFor_of_name pn_1) hisR ?_
  intro p e s m args below meth c s₁ Bd hml0 hP hK
  obtain ⟨rfl, hZ, hh⟩ := hP
  have hx := Bd.exec
  have hby := Bd.bytes
  have hml : c.maxLocals = 3 := hml0
  have hown : s.vm.findClass "com/example/chaise/chaise/formats/TermTokenizer" = some m.cls := findClass_of_methodNamed Bd.named
  have hnm := (name_of_methodNamed Bd.named Bd.method).1
  have X0 : Stand p l e ({ frames := 0, cells := 0, slots := 0, locals := 0 } : Room) s m #[(.int p1)] below meth c s₁ [] 0 0 := Stand.of_body Bd
  have e0 : s₁.heap = h0 := by rw [← hh, Bd.state]; rfl
  have N0 := Fr.nil n0
  show Goes p e s below (fun v h L => Q2 Z p1 na k h0 n0 v h L) ({ frames := 0, cells := 0, slots := 0, locals := 0 } : Room).cells ({ frames := 0, cells := 0, slots := 0, locals := 0 } : Room).slots (s₁.setTop (entryFrame m #[(.int p1)] 3))
  refine Goes.st (U' := s₁.setTop (mkF m 0 #[.val (.int p1), .unset, .unset] [])) (fun t k => castTop (ef_rm2 m p1) k) ?_
  refine Goes.st (U' := s₁.setTop (mkF m 1 #[.val (.int p1), .unset, .unset] [(.int (0 : Int32))])) (fun t k => XS.iconst X0.here hx rfl (hb hby d2_0) k) ?_
  refine Goes.st (U' := s₁.setTop (mkF m 2 #[.val (.int p1), .val (.int (0 : Int32)), .unset] [])) (fun t k => XS.istoreN X0.here hx rfl (hb hby d2_1) rfl (l' := #[.val (.int p1), .val (.int (0 : Int32)), .unset]) rfl k) ?_
  refine Goes.st (U' := s₁.setTop (mkF m 3 #[.val (.int p1), .val (.int (0 : Int32)), .unset] [(.int (0 : Int32))])) (fun t k => XS.iconst X0.here hx rfl (hb hby d2_2) k) ?_
  refine Goes.st (U' := s₁.setTop (mkF m 4 #[.val (.int p1), .val (.int (0 : Int32)), .val (.int (0 : Int32))] [])) (fun t k => XS.istoreN X0.here hx rfl (hb hby d2_3) rfl (l' := #[.val (.int p1), .val (.int (0 : Int32)), .val (.int (0 : Int32))]) rfl k) ?_
  refine Goes.st (U' := s₁.setTop (mkF m 5 #[.val (.int p1), .val (.int (0 : Int32)), .val (.int (0 : Int32))] [(.int (0 : Int32))])) (fun t k => XS.iloadN X0.here hx rfl (hb hby d2_4) rfl k) ?_
  obtain ⟨T1, X1, e1, st1⟩ := getS2 X0 hx hZ hown (host := "") (Or.inl (hw _ (List.mem_of_getElem? (i := 8) rfl))) Via.refl e0 S_NAME_STARTS (g := (mkF m 5 #[.val (.int p1), .val (.int (0 : Int32)), .val (.int (0 : Int32))] [(.int (0 : Int32))])) rfl (hb hby d2_5)
  refine Goes.st (U' := T1.setTop (mkF m 8 #[.val (.int p1), .val (.int (0 : Int32)), .val (.int (0 : Int32))] [(.ref na), (.int (0 : Int32))])) (fun t k => st1 t k) ?_
  have Vx2 := V_na
  obtain ⟨cl2, Ar2, -, S2, Nn2, -, -⟩ := Vx2
  refine Goes.st (U' := T1.setTop (mkF m 9 #[.val (.int p1), .val (.int (0 : Int32)), .val (.int (0 : Int32))] [(.int (28 : Int32)), (.int (0 : Int32))])) (fun t k => (X1.arraylength hx (by rw [e1]; exact Ar2.1) (State.isArrayOf_alike hZ.alike Ar2.2.1) (g := (mkF m 8 #[.val (.int p1), .val (.int (0 : Int32)), .val (.int (0 : Int32))] [(.ref na), (.int (0 : Int32))])) rfl rfl (hb hby d2_8) t (by rw [len_of S2 Nn2]; exact k))) ?_
  refine Goes.st (U' := T1.setTop (mkF m 12 #[.val (.int p1), .val (.int (0 : Int32)), .val (.int (0 : Int32))] [])) (fun t k => XS.icmpNo X1.here hx rfl (hb hby d2_9) rfl (tlt (by decide : (0 : Int32) < (28 : Int32))).2.1 k) ?_
  refine Goes.st (U' := T1.setTop (mkF m 13 #[.val (.int p1), .val (.int (0 : Int32)), .val (.int (0 : Int32))] [(.int (0 : Int32))])) (fun t k => XS.iloadN X1.here hx rfl (hb hby d2_12) rfl k) ?_
  refine Goes.st (U' := T1.setTop (mkF m 16 #[.val (.int p1), .val (.int (0 : Int32)), .val (.int (0 : Int32))] [])) (fun t k => XS.ifNo X1.here hx rfl (hb hby d2_13) rfl ((if0 _ _).trans (teq (rfl : (0 : Int32) = (0 : Int32))).2) k) ?_
  refine Goes.st (U' := T1.setTop (mkF m 17 #[.val (.int p1), .val (.int (0 : Int32)), .val (.int (0 : Int32))] [(.int p1)])) (fun t k => XS.iloadN X1.here hx rfl (hb hby d2_16) rfl k) ?_
  obtain ⟨T3, X3, e3, st3⟩ := getS2 X1 hx hZ hown (host := "") (Or.inl (hw _ (List.mem_of_getElem? (i := 8) rfl))) Via.refl e1 S_NAME_STARTS (g := (mkF m 17 #[.val (.int p1), .val (.int (0 : Int32)), .val (.int (0 : Int32))] [(.int p1)])) rfl (hb hby d2_17)
  refine Goes.st (U' := T3.setTop (mkF m 20 #[.val (.int p1), .val (.int (0 : Int32)), .val (.int (0 : Int32))] [(.ref na), (.int p1)])) (fun t k => st3 t k) ?_
  refine Goes.st (U' := T3.setTop (mkF m 21 #[.val (.int p1), .val (.int (0 : Int32)), .val (.int (0 : Int32))] [(.int (0 : Int32)), (.ref na), (.int p1)])) (fun t k => XS.iloadN X3.here hx rfl (hb hby d2_20) rfl k) ?_
  have Vx4 := V_na
  obtain ⟨cl4, Ar4, qa4, S4, Nn4, H4, G4⟩ := Vx4
  have hin4 : ¬ ((0 : Int32) < 0 ∨ cl4.slots.size ≤ ((0 : Int32)).toNatClampNeg) := inb_of S4 ⟨by decide, by decide⟩
  have hat4 : cl4.slots[((0 : Int32)).toNatClampNeg]? = some (.int (65 : Int32)) := H4.at hin4 rfl
  refine Goes.st (U' := T3.setTop (mkF m 22 #[.val (.int p1), .val (.int (0 : Int32)), .val (.int (0 : Int32))] [(.int (65 : Int32)), (.int p1)])) (fun t k => X3.iaload hx (j := (0 : Int32)) (v := (.int (65 : Int32))) (by rw [e3]; exact Ar4.1) (State.isArrayOf_alike hZ.alike Ar4.2.1) Ar4.2.2 hin4 hat4 (g := (mkF m 21 #[.val (.int p1), .val (.int (0 : Int32)), .val (.int (0 : Int32))] [(.int (0 : Int32)), (.ref na), (.int p1)])) rfl rfl (hb hby d2_21) t k) ?_
  rcases Decidable.em (p1 < (65 : Int32)) with hc22 | hc22
  · refine Goes.st (U' := T3.setTop (mkF m 48 #[.val (.int p1), .val (.int (0 : Int32)), .val (.int (0 : Int32))] [])) (fun t k => XS.icmpYes X3.here hx rfl (pc0 := 22) (pc' := 48) rfl (hb hby d2_22) rfl (tlt hc22).1 (by decide) (by decide) k) ?_
    refine Goes.st (U' := T3.setTop (mkF m 49 #[.val (.int p1), .val (.int (0 : Int32)), .val (.int (0 : Int32))] [(.int (0 : Int32))])) (fun t k => XS.iloadN X3.here hx rfl (hb hby d2_48) rfl k) ?_
    refine Goes.retZ X3 hx (BodyLoose.notSynchronized Bd) Bd.returns (hb hby d2_49) rfl (by decide) (by decide) ?_
    show Q2 Z p1 na k h0 n0 _ T3.heap _
    rw [e3]
    exact ⟨(congrArg some (congrArg _ (by unfold fnns; rw [if_pos hc22]))), N0, rfl⟩
  · refine Goes.st (U' := T3.setTop (mkF m 25 #[.val (.int p1), .val (.int (0 : Int32)), .val (.int (0 : Int32))] [])) (fun t k => XS.icmpNo X3.here hx rfl (hb hby d2_22) rfl (flt hc22).1 k) ?_
    refine Goes.st (U' := T3.setTop (mkF m 26 #[.val (.int p1), .val (.int (0 : Int32)), .val (.int (0 : Int32))] [(.int p1)])) (fun t k => XS.iloadN X3.here hx rfl (hb hby d2_25) rfl k) ?_
    obtain ⟨T5, X5, e5, st5⟩ := getS2 X3 hx hZ hown (host := "") (Or.inl (hw _ (List.mem_of_getElem? (i := 8) rfl))) Via.refl e3 S_NAME_STARTS (g := (mkF m 26 #[.val (.int p1), .val (.int (0 : Int32)), .val (.int (0 : Int32))] [(.int p1)])) rfl (hb hby d2_26)
    refine Goes.st (U' := T5.setTop (mkF m 29 #[.val (.int p1), .val (.int (0 : Int32)), .val (.int (0 : Int32))] [(.ref na), (.int p1)])) (fun t k => st5 t k) ?_
    refine Goes.st (U' := T5.setTop (mkF m 30 #[.val (.int p1), .val (.int (0 : Int32)), .val (.int (0 : Int32))] [(.int (0 : Int32)), (.ref na), (.int p1)])) (fun t k => XS.iloadN X5.here hx rfl (hb hby d2_29) rfl k) ?_
    refine Goes.st (U' := T5.setTop (mkF m 31 #[.val (.int p1), .val (.int (0 : Int32)), .val (.int (0 : Int32))] [(.int (1 : Int32)), (.int (0 : Int32)), (.ref na), (.int p1)])) (fun t k => XS.iconst X5.here hx rfl (hb hby d2_30) k) ?_
    refine Goes.st (U' := T5.setTop (mkF m 32 #[.val (.int p1), .val (.int (0 : Int32)), .val (.int (0 : Int32))] [(.int (1 : Int32)), (.ref na), (.int p1)])) (fun t k => XS.iadd X5.here hx rfl (hb hby d2_31) rfl k) ?_
    have Vx6 := V_na
    obtain ⟨cl6, Ar6, qa6, S6, Nn6, H6, G6⟩ := Vx6
    have hin6 : ¬ ((1 : Int32) < 0 ∨ cl6.slots.size ≤ ((1 : Int32)).toNatClampNeg) := inb_of S6 ⟨by decide, by decide⟩
    have hat6 : cl6.slots[((1 : Int32)).toNatClampNeg]? = some (.int (90 : Int32)) := H6.at hin6 rfl
    refine Goes.st (U' := T5.setTop (mkF m 33 #[.val (.int p1), .val (.int (0 : Int32)), .val (.int (0 : Int32))] [(.int (90 : Int32)), (.int p1)])) (fun t k => X5.iaload hx (j := (1 : Int32)) (v := (.int (90 : Int32))) (by rw [e5]; exact Ar6.1) (State.isArrayOf_alike hZ.alike Ar6.2.1) Ar6.2.2 hin6 hat6 (g := (mkF m 32 #[.val (.int p1), .val (.int (0 : Int32)), .val (.int (0 : Int32))] [(.int (1 : Int32)), (.ref na), (.int p1)])) rfl rfl (hb hby d2_32) t k) ?_
    rcases Decidable.em ((90 : Int32) < p1) with hc33 | hc33
    · refine Goes.st (U' := T5.setTop (mkF m 40 #[.val (.int p1), .val (.int (0 : Int32)), .val (.int (0 : Int32))] [])) (fun t k => XS.icmpYes X5.here hx rfl (pc0 := 33) (pc' := 40) rfl (hb hby d2_33) rfl (tlt hc33).2.2.1 (by decide) (by decide) k) ?_
      refine Goes.st (U' := T5.setTop (mkF m 41 #[.val (.int p1), .val (.int (0 : Int32)), .val (.int (0 : Int32))] [(.int (0 : Int32))])) (fun t k => XS.iconst X5.here hx rfl (hb hby d2_40) k) ?_
      refine Goes.st (U' := T5.setTop (mkF m 42 #[.val (.int p1), .val (.int (0 : Int32)), .val (.int (0 : Int32))] [])) (fun t k => XS.istoreN X5.here hx rfl (hb hby d2_41) rfl (l' := #[.val (.int p1), .val (.int (0 : Int32)), .val (.int (0 : Int32))]) rfl k) ?_
      refine Goes.st (U' := T5.setTop (mkF m 45 #[.val (.int p1), .val (.int (0 : Int32)), .val (.int (2 : Int32))] [])) (fun t k => XS.iinc X5.here hx rfl (hb hby d2_42) rfl (l' := #[.val (.int p1), .val (.int (0 : Int32)), .val (.int (2 : Int32))]) rfl k) ?_
      refine Goes.st (U' := T5.setTop (mkF m 4 #[.val (.int p1), .val (.int (0 : Int32)), .val (.int (2 : Int32))] [])) (fun t k => XS.goto X5.here hx rfl (pc0 := 45) (pc' := 4) rfl (hb hby d2_45) (by decide) (by decide) k) ?_
      refine Goes.st (U' := T5.setTop (mkF m 5 #[.val (.int p1), .val (.int (0 : Int32)), .val (.int (2 : Int32))] [(.int (2 : Int32))])) (fun t k => XS.iloadN X5.here hx rfl (hb hby d2_4) rfl k) ?_
      obtain ⟨T7, X7, e7, st7⟩ := getS2 X5 hx hZ hown (host := "") (Or.inl (hw _ (List.mem_of_getElem? (i := 8) rfl))) Via.refl e5 S_NAME_STARTS (g := (mkF m 5 #[.val (.int p1), .val (.int (0 : Int32)), .val (.int (2 : Int32))] [(.int (2 : Int32))])) rfl (hb hby d2_5)
      refine Goes.st (U' := T7.setTop (mkF m 8 #[.val (.int p1), .val (.int (0 : Int32)), .val (.int (2 : Int32))] [(.ref na), (.int (2 : Int32))])) (fun t k => st7 t k) ?_
      have Vx8 := V_na
      obtain ⟨cl8, Ar8, -, S8, Nn8, -, -⟩ := Vx8
      refine Goes.st (U' := T7.setTop (mkF m 9 #[.val (.int p1), .val (.int (0 : Int32)), .val (.int (2 : Int32))] [(.int (28 : Int32)), (.int (2 : Int32))])) (fun t k => (X7.arraylength hx (by rw [e7]; exact Ar8.1) (State.isArrayOf_alike hZ.alike Ar8.2.1) (g := (mkF m 8 #[.val (.int p1), .val (.int (0 : Int32)), .val (.int (2 : Int32))] [(.ref na), (.int (2 : Int32))])) rfl rfl (hb hby d2_8) t (by rw [len_of S8 Nn8]; exact k))) ?_
      refine Goes.st (U' := T7.setTop (mkF m 12 #[.val (.int p1), .val (.int (0 : Int32)), .val (.int (2 : Int32))] [])) (fun t k => XS.icmpNo X7.here hx rfl (hb hby d2_9) rfl (tlt (by decide : (2 : Int32) < (28 : Int32))).2.1 k) ?_
      refine Goes.st (U' := T7.setTop (mkF m 13 #[.val (.int p1), .val (.int (0 : Int32)), .val (.int (2 : Int32))] [(.int (0 : Int32))])) (fun t k => XS.iloadN X7.here hx rfl (hb hby d2_12) rfl k) ?_
      refine Goes.st (U' := T7.setTop (mkF m 16 #[.val (.int p1), .val (.int (0 : Int32)), .val (.int (2 : Int32))] [])) (fun t k => XS.ifNo X7.here hx rfl (hb hby d2_13) rfl ((if0 _ _).trans (teq (rfl : (0 : Int32) = (0 : Int32))).2) k) ?_
      refine Goes.st (U' := T7.setTop (mkF m 17 #[.val (.int p1), .val (.int (0 : Int32)), .val (.int (2 : Int32))] [(.int p1)])) (fun t k => XS.iloadN X7.here hx rfl (hb hby d2_16) rfl k) ?_
      obtain ⟨T9, X9, e9, st9⟩ := getS2 X7 hx hZ hown (host := "") (Or.inl (hw _ (List.mem_of_getElem? (i := 8) rfl))) Via.refl e7 S_NAME_STARTS (g := (mkF m 17 #[.val (.int p1), .val (.int (0 : Int32)), .val (.int (2 : Int32))] [(.int p1)])) rfl (hb hby d2_17)
      refine Goes.st (U' := T9.setTop (mkF m 20 #[.val (.int p1), .val (.int (0 : Int32)), .val (.int (2 : Int32))] [(.ref na), (.int p1)])) (fun t k => st9 t k) ?_
      refine Goes.st (U' := T9.setTop (mkF m 21 #[.val (.int p1), .val (.int (0 : Int32)), .val (.int (2 : Int32))] [(.int (2 : Int32)), (.ref na), (.int p1)])) (fun t k => XS.iloadN X9.here hx rfl (hb hby d2_20) rfl k) ?_
      have Vx10 := V_na
      obtain ⟨cl10, Ar10, qa10, S10, Nn10, H10, G10⟩ := Vx10
      have hin10 : ¬ ((2 : Int32) < 0 ∨ cl10.slots.size ≤ ((2 : Int32)).toNatClampNeg) := inb_of S10 ⟨by decide, by decide⟩
      have hat10 : cl10.slots[((2 : Int32)).toNatClampNeg]? = some (.int (97 : Int32)) := H10.at hin10 rfl
      refine Goes.st (U' := T9.setTop (mkF m 22 #[.val (.int p1), .val (.int (0 : Int32)), .val (.int (2 : Int32))] [(.int (97 : Int32)), (.int p1)])) (fun t k => X9.iaload hx (j := (2 : Int32)) (v := (.int (97 : Int32))) (by rw [e9]; exact Ar10.1) (State.isArrayOf_alike hZ.alike Ar10.2.1) Ar10.2.2 hin10 hat10 (g := (mkF m 21 #[.val (.int p1), .val (.int (0 : Int32)), .val (.int (2 : Int32))] [(.int (2 : Int32)), (.ref na), (.int p1)])) rfl rfl (hb hby d2_21) t k) ?_
      rcases Decidable.em (p1 < (97 : Int32)) with hc22_1 | hc22_1
      · refine Goes.st (U' := T9.setTop (mkF m 48 #[.val (.int p1), .val (.int (0 : Int32)), .val (.int (2 : Int32))] [])) (fun t k => XS.icmpYes X9.here hx rfl (pc0 := 22) (pc' := 48) rfl (hb hby d2_22) rfl (tlt hc22_1).1 (by decide) (by decide) k) ?_
        refine Goes.st (U' := T9.setTop (mkF m 49 #[.val (.int p1), .val (.int (0 : Int32)), .val (.int (2 : Int32))] [(.int (0 : Int32))])) (fun t k => XS.iloadN X9.here hx rfl (hb hby d2_48) rfl k) ?_
        refine Goes.retZ X9 hx (BodyLoose.notSynchronized Bd) Bd.returns (hb hby d2_49) rfl (by decide) (by decide) ?_
        show Q2 Z p1 na k h0 n0 _ T9.heap _
        rw [e9]
        exact ⟨(congrArg some (congrArg _ (by unfold fnns; rw [if_neg hc22]; rw [if_pos hc33]; rw [if_pos hc22_1]))), N0, rfl⟩
      · refine Goes.st (U' := T9.setTop (mkF m 25 #[.val (.int p1), .val (.int (0 : Int32)), .val (.int (2 : Int32))] [])) (fun t k => XS.icmpNo X9.here hx rfl (hb hby d2_22) rfl (flt hc22_1).1 k) ?_
        refine Goes.st (U' := T9.setTop (mkF m 26 #[.val (.int p1), .val (.int (0 : Int32)), .val (.int (2 : Int32))] [(.int p1)])) (fun t k => XS.iloadN X9.here hx rfl (hb hby d2_25) rfl k) ?_
        obtain ⟨T11, X11, e11, st11⟩ := getS2 X9 hx hZ hown (host := "") (Or.inl (hw _ (List.mem_of_getElem? (i := 8) rfl))) Via.refl e9 S_NAME_STARTS (g := (mkF m 26 #[.val (.int p1), .val (.int (0 : Int32)), .val (.int (2 : Int32))] [(.int p1)])) rfl (hb hby d2_26)
        refine Goes.st (U' := T11.setTop (mkF m 29 #[.val (.int p1), .val (.int (0 : Int32)), .val (.int (2 : Int32))] [(.ref na), (.int p1)])) (fun t k => st11 t k) ?_
        refine Goes.st (U' := T11.setTop (mkF m 30 #[.val (.int p1), .val (.int (0 : Int32)), .val (.int (2 : Int32))] [(.int (2 : Int32)), (.ref na), (.int p1)])) (fun t k => XS.iloadN X11.here hx rfl (hb hby d2_29) rfl k) ?_
        refine Goes.st (U' := T11.setTop (mkF m 31 #[.val (.int p1), .val (.int (0 : Int32)), .val (.int (2 : Int32))] [(.int (1 : Int32)), (.int (2 : Int32)), (.ref na), (.int p1)])) (fun t k => XS.iconst X11.here hx rfl (hb hby d2_30) k) ?_
        refine Goes.st (U' := T11.setTop (mkF m 32 #[.val (.int p1), .val (.int (0 : Int32)), .val (.int (2 : Int32))] [(.int (3 : Int32)), (.ref na), (.int p1)])) (fun t k => XS.iadd X11.here hx rfl (hb hby d2_31) rfl k) ?_
        have Vx12 := V_na
        obtain ⟨cl12, Ar12, qa12, S12, Nn12, H12, G12⟩ := Vx12
        have hin12 : ¬ ((3 : Int32) < 0 ∨ cl12.slots.size ≤ ((3 : Int32)).toNatClampNeg) := inb_of S12 ⟨by decide, by decide⟩
        have hat12 : cl12.slots[((3 : Int32)).toNatClampNeg]? = some (.int (122 : Int32)) := H12.at hin12 rfl
        refine Goes.st (U' := T11.setTop (mkF m 33 #[.val (.int p1), .val (.int (0 : Int32)), .val (.int (2 : Int32))] [(.int (122 : Int32)), (.int p1)])) (fun t k => X11.iaload hx (j := (3 : Int32)) (v := (.int (122 : Int32))) (by rw [e11]; exact Ar12.1) (State.isArrayOf_alike hZ.alike Ar12.2.1) Ar12.2.2 hin12 hat12 (g := (mkF m 32 #[.val (.int p1), .val (.int (0 : Int32)), .val (.int (2 : Int32))] [(.int (3 : Int32)), (.ref na), (.int p1)])) rfl rfl (hb hby d2_32) t k) ?_
        rcases Decidable.em ((122 : Int32) < p1) with hc33_1 | hc33_1
        · refine Goes.st (U' := T11.setTop (mkF m 40 #[.val (.int p1), .val (.int (0 : Int32)), .val (.int (2 : Int32))] [])) (fun t k => XS.icmpYes X11.here hx rfl (pc0 := 33) (pc' := 40) rfl (hb hby d2_33) rfl (tlt hc33_1).2.2.1 (by decide) (by decide) k) ?_
          refine Goes.st (U' := T11.setTop (mkF m 41 #[.val (.int p1), .val (.int (0 : Int32)), .val (.int (2 : Int32))] [(.int (0 : Int32))])) (fun t k => XS.iconst X11.here hx rfl (hb hby d2_40) k) ?_
          refine Goes.st (U' := T11.setTop (mkF m 42 #[.val (.int p1), .val (.int (0 : Int32)), .val (.int (2 : Int32))] [])) (fun t k => XS.istoreN X11.here hx rfl (hb hby d2_41) rfl (l' := #[.val (.int p1), .val (.int (0 : Int32)), .val (.int (2 : Int32))]) rfl k) ?_
          refine Goes.st (U' := T11.setTop (mkF m 45 #[.val (.int p1), .val (.int (0 : Int32)), .val (.int (4 : Int32))] [])) (fun t k => XS.iinc X11.here hx rfl (hb hby d2_42) rfl (l' := #[.val (.int p1), .val (.int (0 : Int32)), .val (.int (4 : Int32))]) rfl k) ?_
          refine Goes.st (U' := T11.setTop (mkF m 4 #[.val (.int p1), .val (.int (0 : Int32)), .val (.int (4 : Int32))] [])) (fun t k => XS.goto X11.here hx rfl (pc0 := 45) (pc' := 4) rfl (hb hby d2_45) (by decide) (by decide) k) ?_
          refine Goes.st (U' := T11.setTop (mkF m 5 #[.val (.int p1), .val (.int (0 : Int32)), .val (.int (4 : Int32))] [(.int (4 : Int32))])) (fun t k => XS.iloadN X11.here hx rfl (hb hby d2_4) rfl k) ?_
          obtain ⟨T13, X13, e13, st13⟩ := getS2 X11 hx hZ hown (host := "") (Or.inl (hw _ (List.mem_of_getElem? (i := 8) rfl))) Via.refl e11 S_NAME_STARTS (g := (mkF m 5 #[.val (.int p1), .val (.int (0 : Int32)), .val (.int (4 : Int32))] [(.int (4 : Int32))])) rfl (hb hby d2_5)
          refine Goes.st (U' := T13.setTop (mkF m 8 #[.val (.int p1), .val (.int (0 : Int32)), .val (.int (4 : Int32))] [(.ref na), (.int (4 : Int32))])) (fun t k => st13 t k) ?_
          have Vx14 := V_na
          obtain ⟨cl14, Ar14, -, S14, Nn14, -, -⟩ := Vx14
          refine Goes.st (U' := T13.setTop (mkF m 9 #[.val (.int p1), .val (.int (0 : Int32)), .val (.int (4 : Int32))] [(.int (28 : Int32)), (.int (4 : Int32))])) (fun t k => (X13.arraylength hx (by rw [e13]; exact Ar14.1) (State.isArrayOf_alike hZ.alike Ar14.2.1) (g := (mkF m 8 #[.val (.int p1), .val (.int (0 : Int32)), .val (.int (4 : Int32))] [(.ref na), (.int (4 : Int32))])) rfl rfl (hb hby d2_8) t (by rw [len_of S14 Nn14]; exact k))) ?_
          refine Goes.st (U' := T13.setTop (mkF m 12 #[.val (.int p1), .val (.int (0 : Int32)), .val (.int (4 : Int32))] [])) (fun t k => XS.icmpNo X13.here hx rfl (hb hby d2_9) rfl (tlt (by decide : (4 : Int32) < (28 : Int32))).2.1 k) ?_
          refine Goes.st (U' := T13.setTop (mkF m 13 #[.val (.int p1), .val (.int (0 : Int32)), .val (.int (4 : Int32))] [(.int (0 : Int32))])) (fun t k => XS.iloadN X13.here hx rfl (hb hby d2_12) rfl k) ?_
          refine Goes.st (U' := T13.setTop (mkF m 16 #[.val (.int p1), .val (.int (0 : Int32)), .val (.int (4 : Int32))] [])) (fun t k => XS.ifNo X13.here hx rfl (hb hby d2_13) rfl ((if0 _ _).trans (teq (rfl : (0 : Int32) = (0 : Int32))).2) k) ?_
          refine Goes.st (U' := T13.setTop (mkF m 17 #[.val (.int p1), .val (.int (0 : Int32)), .val (.int (4 : Int32))] [(.int p1)])) (fun t k => XS.iloadN X13.here hx rfl (hb hby d2_16) rfl k) ?_
          obtain ⟨T15, X15, e15, st15⟩ := getS2 X13 hx hZ hown (host := "") (Or.inl (hw _ (List.mem_of_getElem? (i := 8) rfl))) Via.refl e13 S_NAME_STARTS (g := (mkF m 17 #[.val (.int p1), .val (.int (0 : Int32)), .val (.int (4 : Int32))] [(.int p1)])) rfl (hb hby d2_17)
          refine Goes.st (U' := T15.setTop (mkF m 20 #[.val (.int p1), .val (.int (0 : Int32)), .val (.int (4 : Int32))] [(.ref na), (.int p1)])) (fun t k => st15 t k) ?_
          refine Goes.st (U' := T15.setTop (mkF m 21 #[.val (.int p1), .val (.int (0 : Int32)), .val (.int (4 : Int32))] [(.int (4 : Int32)), (.ref na), (.int p1)])) (fun t k => XS.iloadN X15.here hx rfl (hb hby d2_20) rfl k) ?_
          have Vx16 := V_na
          obtain ⟨cl16, Ar16, qa16, S16, Nn16, H16, G16⟩ := Vx16
          have hin16 : ¬ ((4 : Int32) < 0 ∨ cl16.slots.size ≤ ((4 : Int32)).toNatClampNeg) := inb_of S16 ⟨by decide, by decide⟩
          have hat16 : cl16.slots[((4 : Int32)).toNatClampNeg]? = some (.int (192 : Int32)) := H16.at hin16 rfl
          refine Goes.st (U' := T15.setTop (mkF m 22 #[.val (.int p1), .val (.int (0 : Int32)), .val (.int (4 : Int32))] [(.int (192 : Int32)), (.int p1)])) (fun t k => X15.iaload hx (j := (4 : Int32)) (v := (.int (192 : Int32))) (by rw [e15]; exact Ar16.1) (State.isArrayOf_alike hZ.alike Ar16.2.1) Ar16.2.2 hin16 hat16 (g := (mkF m 21 #[.val (.int p1), .val (.int (0 : Int32)), .val (.int (4 : Int32))] [(.int (4 : Int32)), (.ref na), (.int p1)])) rfl rfl (hb hby d2_21) t k) ?_
          rcases Decidable.em (p1 < (192 : Int32)) with hc22_2 | hc22_2
          · refine Goes.st (U' := T15.setTop (mkF m 48 #[.val (.int p1), .val (.int (0 : Int32)), .val (.int (4 : Int32))] [])) (fun t k => XS.icmpYes X15.here hx rfl (pc0 := 22) (pc' := 48) rfl (hb hby d2_22) rfl (tlt hc22_2).1 (by decide) (by decide) k) ?_
            refine Goes.st (U' := T15.setTop (mkF m 49 #[.val (.int p1), .val (.int (0 : Int32)), .val (.int (4 : Int32))] [(.int (0 : Int32))])) (fun t k => XS.iloadN X15.here hx rfl (hb hby d2_48) rfl k) ?_
            refine Goes.retZ X15 hx (BodyLoose.notSynchronized Bd) Bd.returns (hb hby d2_49) rfl (by decide) (by decide) ?_
            show Q2 Z p1 na k h0 n0 _ T15.heap _
            rw [e15]
            exact ⟨(congrArg some (congrArg _ (by unfold fnns; rw [if_neg hc22]; rw [if_pos hc33]; rw [if_neg hc22_1]; rw [if_pos hc33_1]; rw [if_pos hc22_2]))), N0, rfl⟩
          · refine Goes.st (U' := T15.setTop (mkF m 25 #[.val (.int p1), .val (.int (0 : Int32)), .val (.int (4 : Int32))] [])) (fun t k => XS.icmpNo X15.here hx rfl (hb hby d2_22) rfl (flt hc22_2).1 k) ?_
            refine Goes.st (U' := T15.setTop (mkF m 26 #[.val (.int p1), .val (.int (0 : Int32)), .val (.int (4 : Int32))] [(.int p1)])) (fun t k => XS.iloadN X15.here hx rfl (hb hby d2_25) rfl k) ?_
            obtain ⟨T17, X17, e17, st17⟩ := getS2 X15 hx hZ hown (host := "") (Or.inl (hw _ (List.mem_of_getElem? (i := 8) rfl))) Via.refl e15 S_NAME_STARTS (g := (mkF m 26 #[.val (.int p1), .val (.int (0 : Int32)), .val (.int (4 : Int32))] [(.int p1)])) rfl (hb hby d2_26)
            refine Goes.st (U' := T17.setTop (mkF m 29 #[.val (.int p1), .val (.int (0 : Int32)), .val (.int (4 : Int32))] [(.ref na), (.int p1)])) (fun t k => st17 t k) ?_
            refine Goes.st (U' := T17.setTop (mkF m 30 #[.val (.int p1), .val (.int (0 : Int32)), .val (.int (4 : Int32))] [(.int (4 : Int32)), (.ref na), (.int p1)])) (fun t k => XS.iloadN X17.here hx rfl (hb hby d2_29) rfl k) ?_
            refine Goes.st (U' := T17.setTop (mkF m 31 #[.val (.int p1), .val (.int (0 : Int32)), .val (.int (4 : Int32))] [(.int (1 : Int32)), (.int (4 : Int32)), (.ref na), (.int p1)])) (fun t k => XS.iconst X17.here hx rfl (hb hby d2_30) k) ?_
            refine Goes.st (U' := T17.setTop (mkF m 32 #[.val (.int p1), .val (.int (0 : Int32)), .val (.int (4 : Int32))] [(.int (5 : Int32)), (.ref na), (.int p1)])) (fun t k => XS.iadd X17.here hx rfl (hb hby d2_31) rfl k) ?_
            have Vx18 := V_na
            obtain ⟨cl18, Ar18, qa18, S18, Nn18, H18, G18⟩ := Vx18
            have hin18 : ¬ ((5 : Int32) < 0 ∨ cl18.slots.size ≤ ((5 : Int32)).toNatClampNeg) := inb_of S18 ⟨by decide, by decide⟩
            have hat18 : cl18.slots[((5 : Int32)).toNatClampNeg]? = some (.int (214 : Int32)) := H18.at hin18 rfl
            refine Goes.st (U' := T17.setTop (mkF m 33 #[.val (.int p1), .val (.int (0 : Int32)), .val (.int (4 : Int32))] [(.int (214 : Int32)), (.int p1)])) (fun t k => X17.iaload hx (j := (5 : Int32)) (v := (.int (214 : Int32))) (by rw [e17]; exact Ar18.1) (State.isArrayOf_alike hZ.alike Ar18.2.1) Ar18.2.2 hin18 hat18 (g := (mkF m 32 #[.val (.int p1), .val (.int (0 : Int32)), .val (.int (4 : Int32))] [(.int (5 : Int32)), (.ref na), (.int p1)])) rfl rfl (hb hby d2_32) t k) ?_
            rcases Decidable.em ((214 : Int32) < p1) with hc33_2 | hc33_2
            · refine Goes.st (U' := T17.setTop (mkF m 40 #[.val (.int p1), .val (.int (0 : Int32)), .val (.int (4 : Int32))] [])) (fun t k => XS.icmpYes X17.here hx rfl (pc0 := 33) (pc' := 40) rfl (hb hby d2_33) rfl (tlt hc33_2).2.2.1 (by decide) (by decide) k) ?_
              refine Goes.st (U' := T17.setTop (mkF m 41 #[.val (.int p1), .val (.int (0 : Int32)), .val (.int (4 : Int32))] [(.int (0 : Int32))])) (fun t k => XS.iconst X17.here hx rfl (hb hby d2_40) k) ?_
              refine Goes.st (U' := T17.setTop (mkF m 42 #[.val (.int p1), .val (.int (0 : Int32)), .val (.int (4 : Int32))] [])) (fun t k => XS.istoreN X17.here hx rfl (hb hby d2_41) rfl (l' := #[.val (.int p1), .val (.int (0 : Int32)), .val (.int (4 : Int32))]) rfl k) ?_
              refine Goes.st (U' := T17.setTop (mkF m 45 #[.val (.int p1), .val (.int (0 : Int32)), .val (.int (6 : Int32))] [])) (fun t k => XS.iinc X17.here hx rfl (hb hby d2_42) rfl (l' := #[.val (.int p1), .val (.int (0 : Int32)), .val (.int (6 : Int32))]) rfl k) ?_
              refine Goes.st (U' := T17.setTop (mkF m 4 #[.val (.int p1), .val (.int (0 : Int32)), .val (.int (6 : Int32))] [])) (fun t k => XS.goto X17.here hx rfl (pc0 := 45) (pc' := 4) rfl (hb hby d2_45) (by decide) (by decide) k) ?_
              refine Goes.st (U' := T17.setTop (mkF m 5 #[.val (.int p1), .val (.int (0 : Int32)), .val (.int (6 : Int32))] [(.int (6 : Int32))])) (fun t k => XS.iloadN X17.here hx rfl (hb hby d2_4) rfl k) ?_
              obtain ⟨T19, X19, e19, st19⟩ := getS2 X17 hx hZ hown (host := "") (Or.inl (hw _ (List.mem_of_getElem? (i := 8) rfl))) Via.refl e17 S_NAME_STARTS (g := (mkF m 5 #[.val (.int p1), .val (.int (0 : Int32)), .val (.int (6 : Int32))] [(.int (6 : Int32))])) rfl (hb hby d2_5)
              refine Goes.st (U' := T19.setTop (mkF m 8 #[.val (.int p1), .val (.int (0 : Int32)), .val (.int (6 : Int32))] [(.ref na), (.int (6 : Int32))])) (fun t k => st19 t k) ?_
              have Vx20 := V_na
              obtain ⟨cl20, Ar20, -, S20, Nn20, -, -⟩ := Vx20
              refine Goes.st (U' := T19.setTop (mkF m 9 #[.val (.int p1), .val (.int (0 : Int32)), .val (.int (6 : Int32))] [(.int (28 : Int32)), (.int (6 : Int32))])) (fun t k => (X19.arraylength hx (by rw [e19]; exact Ar20.1) (State.isArrayOf_alike hZ.alike Ar20.2.1) (g := (mkF m 8 #[.val (.int p1), .val (.int (0 : Int32)), .val (.int (6 : Int32))] [(.ref na), (.int (6 : Int32))])) rfl rfl (hb hby d2_8) t (by rw [len_of S20 Nn20]; exact k))) ?_
              refine Goes.st (U' := T19.setTop (mkF m 12 #[.val (.int p1), .val (.int (0 : Int32)), .val (.int (6 : Int32))] [])) (fun t k => XS.icmpNo X19.here hx rfl (hb hby d2_9) rfl (tlt (by decide : (6 : Int32) < (28 : Int32))).2.1 k) ?_
              refine Goes.st (U' := T19.setTop (mkF m 13 #[.val (.int p1), .val (.int (0 : Int32)), .val (.int (6 : Int32))] [(.int (0 : Int32))])) (fun t k => XS.iloadN X19.here hx rfl (hb hby d2_12) rfl k) ?_
              refine Goes.st (U' := T19.setTop (mkF m 16 #[.val (.int p1), .val (.int (0 : Int32)), .val (.int (6 : Int32))] [])) (fun t k => XS.ifNo X19.here hx rfl (hb hby d2_13) rfl ((if0 _ _).trans (teq (rfl : (0 : Int32) = (0 : Int32))).2) k) ?_
              refine Goes.st (U' := T19.setTop (mkF m 17 #[.val (.int p1), .val (.int (0 : Int32)), .val (.int (6 : Int32))] [(.int p1)])) (fun t k => XS.iloadN X19.here hx rfl (hb hby d2_16) rfl k) ?_
              obtain ⟨T21, X21, e21, st21⟩ := getS2 X19 hx hZ hown (host := "") (Or.inl (hw _ (List.mem_of_getElem? (i := 8) rfl))) Via.refl e19 S_NAME_STARTS (g := (mkF m 17 #[.val (.int p1), .val (.int (0 : Int32)), .val (.int (6 : Int32))] [(.int p1)])) rfl (hb hby d2_17)
              refine Goes.st (U' := T21.setTop (mkF m 20 #[.val (.int p1), .val (.int (0 : Int32)), .val (.int (6 : Int32))] [(.ref na), (.int p1)])) (fun t k => st21 t k) ?_
              refine Goes.st (U' := T21.setTop (mkF m 21 #[.val (.int p1), .val (.int (0 : Int32)), .val (.int (6 : Int32))] [(.int (6 : Int32)), (.ref na), (.int p1)])) (fun t k => XS.iloadN X21.here hx rfl (hb hby d2_20) rfl k) ?_
              have Vx22 := V_na
              obtain ⟨cl22, Ar22, qa22, S22, Nn22, H22, G22⟩ := Vx22
              have hin22 : ¬ ((6 : Int32) < 0 ∨ cl22.slots.size ≤ ((6 : Int32)).toNatClampNeg) := inb_of S22 ⟨by decide, by decide⟩
              have hat22 : cl22.slots[((6 : Int32)).toNatClampNeg]? = some (.int (216 : Int32)) := H22.at hin22 rfl
              refine Goes.st (U' := T21.setTop (mkF m 22 #[.val (.int p1), .val (.int (0 : Int32)), .val (.int (6 : Int32))] [(.int (216 : Int32)), (.int p1)])) (fun t k => X21.iaload hx (j := (6 : Int32)) (v := (.int (216 : Int32))) (by rw [e21]; exact Ar22.1) (State.isArrayOf_alike hZ.alike Ar22.2.1) Ar22.2.2 hin22 hat22 (g := (mkF m 21 #[.val (.int p1), .val (.int (0 : Int32)), .val (.int (6 : Int32))] [(.int (6 : Int32)), (.ref na), (.int p1)])) rfl rfl (hb hby d2_21) t k) ?_
              rcases Decidable.em (p1 < (216 : Int32)) with hc22_3 | hc22_3
              · refine Goes.st (U' := T21.setTop (mkF m 48 #[.val (.int p1), .val (.int (0 : Int32)), .val (.int (6 : Int32))] [])) (fun t k => XS.icmpYes X21.here hx rfl (pc0 := 22) (pc' := 48) rfl (hb hby d2_22) rfl (tlt hc22_3).1 (by decide) (by decide) k) ?_
                refine Goes.st (U' := T21.setTop (mkF m 49 #[.val (.int p1), .val (.int (0 : Int32)), .val (.int (6 : Int32))] [(.int (0 : Int32))])) (fun t k => XS.iloadN X21.here hx rfl (hb hby d2_48) rfl k) ?_
                refine Goes.retZ X21 hx (BodyLoose.notSynchronized Bd) Bd.returns (hb hby d2_49) rfl (by decide) (by decide) ?_
                show Q2 Z p1 na k h0 n0 _ T21.heap _
                rw [e21]
                exact ⟨(congrArg some (congrArg _ (by unfold fnns; rw [if_neg hc22]; rw [if_pos hc33]; rw [if_neg hc22_1]; rw [if_pos hc33_1]; rw [if_neg hc22_2]; rw [if_pos hc33_2]; rw [if_pos hc22_3]))), N0, rfl⟩
              · refine Goes.st (U' := T21.setTop (mkF m 25 #[.val (.int p1), .val (.int (0 : Int32)), .val (.int (6 : Int32))] [])) (fun t k => XS.icmpNo X21.here hx rfl (hb hby d2_22) rfl (flt hc22_3).1 k) ?_
                refine Goes.st (U' := T21.setTop (mkF m 26 #[.val (.int p1), .val (.int (0 : Int32)), .val (.int (6 : Int32))] [(.int p1)])) (fun t k => XS.iloadN X21.here hx rfl (hb hby d2_25) rfl k) ?_
                obtain ⟨T23, X23, e23, st23⟩ := getS2 X21 hx hZ hown (host := "") (Or.inl (hw _ (List.mem_of_getElem? (i := 8) rfl))) Via.refl e21 S_NAME_STARTS (g := (mkF m 26 #[.val (.int p1), .val (.int (0 : Int32)), .val (.int (6 : Int32))] [(.int p1)])) rfl (hb hby d2_26)
                refine Goes.st (U' := T23.setTop (mkF m 29 #[.val (.int p1), .val (.int (0 : Int32)), .val (.int (6 : Int32))] [(.ref na), (.int p1)])) (fun t k => st23 t k) ?_
                refine Goes.st (U' := T23.setTop (mkF m 30 #[.val (.int p1), .val (.int (0 : Int32)), .val (.int (6 : Int32))] [(.int (6 : Int32)), (.ref na), (.int p1)])) (fun t k => XS.iloadN X23.here hx rfl (hb hby d2_29) rfl k) ?_
                refine Goes.st (U' := T23.setTop (mkF m 31 #[.val (.int p1), .val (.int (0 : Int32)), .val (.int (6 : Int32))] [(.int (1 : Int32)), (.int (6 : Int32)), (.ref na), (.int p1)])) (fun t k => XS.iconst X23.here hx rfl (hb hby d2_30) k) ?_
                refine Goes.st (U' := T23.setTop (mkF m 32 #[.val (.int p1), .val (.int (0 : Int32)), .val (.int (6 : Int32))] [(.int (7 : Int32)), (.ref na), (.int p1)])) (fun t k => XS.iadd X23.here hx rfl (hb hby d2_31) rfl k) ?_
                have Vx24 := V_na
                obtain ⟨cl24, Ar24, qa24, S24, Nn24, H24, G24⟩ := Vx24
                have hin24 : ¬ ((7 : Int32) < 0 ∨ cl24.slots.size ≤ ((7 : Int32)).toNatClampNeg) := inb_of S24 ⟨by decide, by decide⟩
                have hat24 : cl24.slots[((7 : Int32)).toNatClampNeg]? = some (.int (246 : Int32)) := H24.at hin24 rfl
                refine Goes.st (U' := T23.setTop (mkF m 33 #[.val (.int p1), .val (.int (0 : Int32)), .val (.int (6 : Int32))] [(.int (246 : Int32)), (.int p1)])) (fun t k => X23.iaload hx (j := (7 : Int32)) (v := (.int (246 : Int32))) (by rw [e23]; exact Ar24.1) (State.isArrayOf_alike hZ.alike Ar24.2.1) Ar24.2.2 hin24 hat24 (g := (mkF m 32 #[.val (.int p1), .val (.int (0 : Int32)), .val (.int (6 : Int32))] [(.int (7 : Int32)), (.ref na), (.int p1)])) rfl rfl (hb hby d2_32) t k) ?_
                rcases Decidable.em ((246 : Int32) < p1) with hc33_3 | hc33_3
                · refine Goes.st (U' := T23.setTop (mkF m 40 #[.val (.int p1), .val (.int (0 : Int32)), .val (.int (6 : Int32))] [])) (fun t k => XS.icmpYes X23.here hx rfl (pc0 := 33) (pc' := 40) rfl (hb hby d2_33) rfl (tlt hc33_3).2.2.1 (by decide) (by decide) k) ?_
                  refine Goes.st (U' := T23.setTop (mkF m 41 #[.val (.int p1), .val (.int (0 : Int32)), .val (.int (6 : Int32))] [(.int (0 : Int32))])) (fun t k => XS.iconst X23.here hx rfl (hb hby d2_40) k) ?_
                  refine Goes.st (U' := T23.setTop (mkF m 42 #[.val (.int p1), .val (.int (0 : Int32)), .val (.int (6 : Int32))] [])) (fun t k => XS.istoreN X23.here hx rfl (hb hby d2_41) rfl (l' := #[.val (.int p1), .val (.int (0 : Int32)), .val (.int (6 : Int32))]) rfl k) ?_
                  refine Goes.st (U' := T23.setTop (mkF m 45 #[.val (.int p1), .val (.int (0 : Int32)), .val (.int (8 : Int32))] [])) (fun t k => XS.iinc X23.here hx rfl (hb hby d2_42) rfl (l' := #[.val (.int p1), .val (.int (0 : Int32)), .val (.int (8 : Int32))]) rfl k) ?_
                  refine Goes.st (U' := T23.setTop (mkF m 4 #[.val (.int p1), .val (.int (0 : Int32)), .val (.int (8 : Int32))] [])) (fun t k => XS.goto X23.here hx rfl (pc0 := 45) (pc' := 4) rfl (hb hby d2_45) (by decide) (by decide) k) ?_
                  refine Goes.st (U' := T23.setTop (mkF m 5 #[.val (.int p1), .val (.int (0 : Int32)), .val (.int (8 : Int32))] [(.int (8 : Int32))])) (fun t k => XS.iloadN X23.here hx rfl (hb hby d2_4) rfl k) ?_
                  obtain ⟨T25, X25, e25, st25⟩ := getS2 X23 hx hZ hown (host := "") (Or.inl (hw _ (List.mem_of_getElem? (i := 8) rfl))) Via.refl e23 S_NAME_STARTS (g := (mkF m 5 #[.val (.int p1), .val (.int (0 : Int32)), .val (.int (8 : Int32))] [(.int (8 : Int32))])) rfl (hb hby d2_5)
                  refine Goes.st (U' := T25.setTop (mkF m 8 #[.val (.int p1), .val (.int (0 : Int32)), .val (.int (8 : Int32))] [(.ref na), (.int (8 : Int32))])) (fun t k => st25 t k) ?_
                  have Vx26 := V_na
                  obtain ⟨cl26, Ar26, -, S26, Nn26, -, -⟩ := Vx26
                  refine Goes.st (U' := T25.setTop (mkF m 9 #[.val (.int p1), .val (.int (0 : Int32)), .val (.int (8 : Int32))] [(.int (28 : Int32)), (.int (8 : Int32))])) (fun t k => (X25.arraylength hx (by rw [e25]; exact Ar26.1) (State.isArrayOf_alike hZ.alike Ar26.2.1) (g := (mkF m 8 #[.val (.int p1), .val (.int (0 : Int32)), .val (.int (8 : Int32))] [(.ref na), (.int (8 : Int32))])) rfl rfl (hb hby d2_8) t (by rw [len_of S26 Nn26]; exact k))) ?_
                  refine Goes.st (U' := T25.setTop (mkF m 12 #[.val (.int p1), .val (.int (0 : Int32)), .val (.int (8 : Int32))] [])) (fun t k => XS.icmpNo X25.here hx rfl (hb hby d2_9) rfl (tlt (by decide : (8 : Int32) < (28 : Int32))).2.1 k) ?_
                  refine Goes.st (U' := T25.setTop (mkF m 13 #[.val (.int p1), .val (.int (0 : Int32)), .val (.int (8 : Int32))] [(.int (0 : Int32))])) (fun t k => XS.iloadN X25.here hx rfl (hb hby d2_12) rfl k) ?_
                  refine Goes.st (U' := T25.setTop (mkF m 16 #[.val (.int p1), .val (.int (0 : Int32)), .val (.int (8 : Int32))] [])) (fun t k => XS.ifNo X25.here hx rfl (hb hby d2_13) rfl ((if0 _ _).trans (teq (rfl : (0 : Int32) = (0 : Int32))).2) k) ?_
                  refine Goes.st (U' := T25.setTop (mkF m 17 #[.val (.int p1), .val (.int (0 : Int32)), .val (.int (8 : Int32))] [(.int p1)])) (fun t k => XS.iloadN X25.here hx rfl (hb hby d2_16) rfl k) ?_
                  obtain ⟨T27, X27, e27, st27⟩ := getS2 X25 hx hZ hown (host := "") (Or.inl (hw _ (List.mem_of_getElem? (i := 8) rfl))) Via.refl e25 S_NAME_STARTS (g := (mkF m 17 #[.val (.int p1), .val (.int (0 : Int32)), .val (.int (8 : Int32))] [(.int p1)])) rfl (hb hby d2_17)
                  refine Goes.st (U' := T27.setTop (mkF m 20 #[.val (.int p1), .val (.int (0 : Int32)), .val (.int (8 : Int32))] [(.ref na), (.int p1)])) (fun t k => st27 t k) ?_
                  refine Goes.st (U' := T27.setTop (mkF m 21 #[.val (.int p1), .val (.int (0 : Int32)), .val (.int (8 : Int32))] [(.int (8 : Int32)), (.ref na), (.int p1)])) (fun t k => XS.iloadN X27.here hx rfl (hb hby d2_20) rfl k) ?_
                  have Vx28 := V_na
                  obtain ⟨cl28, Ar28, qa28, S28, Nn28, H28, G28⟩ := Vx28
                  have hin28 : ¬ ((8 : Int32) < 0 ∨ cl28.slots.size ≤ ((8 : Int32)).toNatClampNeg) := inb_of S28 ⟨by decide, by decide⟩
                  have hat28 : cl28.slots[((8 : Int32)).toNatClampNeg]? = some (.int (248 : Int32)) := H28.at hin28 rfl
                  refine Goes.st (U' := T27.setTop (mkF m 22 #[.val (.int p1), .val (.int (0 : Int32)), .val (.int (8 : Int32))] [(.int (248 : Int32)), (.int p1)])) (fun t k => X27.iaload hx (j := (8 : Int32)) (v := (.int (248 : Int32))) (by rw [e27]; exact Ar28.1) (State.isArrayOf_alike hZ.alike Ar28.2.1) Ar28.2.2 hin28 hat28 (g := (mkF m 21 #[.val (.int p1), .val (.int (0 : Int32)), .val (.int (8 : Int32))] [(.int (8 : Int32)), (.ref na), (.int p1)])) rfl rfl (hb hby d2_21) t k) ?_
                  rcases Decidable.em (p1 < (248 : Int32)) with hc22_4 | hc22_4
                  · refine Goes.st (U' := T27.setTop (mkF m 48 #[.val (.int p1), .val (.int (0 : Int32)), .val (.int (8 : Int32))] [])) (fun t k => XS.icmpYes X27.here hx rfl (pc0 := 22) (pc' := 48) rfl (hb hby d2_22) rfl (tlt hc22_4).1 (by decide) (by decide) k) ?_
                    refine Goes.st (U' := T27.setTop (mkF m 49 #[.val (.int p1), .val (.int (0 : Int32)), .val (.int (8 : Int32))] [(.int (0 : Int32))])) (fun t k => XS.iloadN X27.here hx rfl (hb hby d2_48) rfl k) ?_
                    refine Goes.retZ X27 hx (BodyLoose.notSynchronized Bd) Bd.returns (hb hby d2_49) rfl (by decide) (by decide) ?_
                    show Q2 Z p1 na k h0 n0 _ T27.heap _
                    rw [e27]
                    exact ⟨(congrArg some (congrArg _ (by unfold fnns; rw [if_neg hc22]; rw [if_pos hc33]; rw [if_neg hc22_1]; rw [if_pos hc33_1]; rw [if_neg hc22_2]; rw [if_pos hc33_2]; rw [if_neg hc22_3]; rw [if_pos hc33_3]; rw [if_pos hc22_4]))), N0, rfl⟩
                  · refine Goes.st (U' := T27.setTop (mkF m 25 #[.val (.int p1), .val (.int (0 : Int32)), .val (.int (8 : Int32))] [])) (fun t k => XS.icmpNo X27.here hx rfl (hb hby d2_22) rfl (flt hc22_4).1 k) ?_
                    refine Goes.st (U' := T27.setTop (mkF m 26 #[.val (.int p1), .val (.int (0 : Int32)), .val (.int (8 : Int32))] [(.int p1)])) (fun t k => XS.iloadN X27.here hx rfl (hb hby d2_25) rfl k) ?_
                    obtain ⟨T29, X29, e29, st29⟩ := getS2 X27 hx hZ hown (host := "") (Or.inl (hw _ (List.mem_of_getElem? (i := 8) rfl))) Via.refl e27 S_NAME_STARTS (g := (mkF m 26 #[.val (.int p1), .val (.int (0 : Int32)), .val (.int (8 : Int32))] [(.int p1)])) rfl (hb hby d2_26)
                    refine Goes.st (U' := T29.setTop (mkF m 29 #[.val (.int p1), .val (.int (0 : Int32)), .val (.int (8 : Int32))] [(.ref na), (.int p1)])) (fun t k => st29 t k) ?_
                    refine Goes.st (U' := T29.setTop (mkF m 30 #[.val (.int p1), .val (.int (0 : Int32)), .val (.int (8 : Int32))] [(.int (8 : Int32)), (.ref na), (.int p1)])) (fun t k => XS.iloadN X29.here hx rfl (hb hby d2_29) rfl k) ?_
                    refine Goes.st (U' := T29.setTop (mkF m 31 #[.val (.int p1), .val (.int (0 : Int32)), .val (.int (8 : Int32))] [(.int (1 : Int32)), (.int (8 : Int32)), (.ref na), (.int p1)])) (fun t k => XS.iconst X29.here hx rfl (hb hby d2_30) k) ?_
                    refine Goes.st (U' := T29.setTop (mkF m 32 #[.val (.int p1), .val (.int (0 : Int32)), .val (.int (8 : Int32))] [(.int (9 : Int32)), (.ref na), (.int p1)])) (fun t k => XS.iadd X29.here hx rfl (hb hby d2_31) rfl k) ?_
                    have Vx30 := V_na
                    obtain ⟨cl30, Ar30, qa30, S30, Nn30, H30, G30⟩ := Vx30
                    have hin30 : ¬ ((9 : Int32) < 0 ∨ cl30.slots.size ≤ ((9 : Int32)).toNatClampNeg) := inb_of S30 ⟨by decide, by decide⟩
                    have hat30 : cl30.slots[((9 : Int32)).toNatClampNeg]? = some (.int (767 : Int32)) := H30.at hin30 rfl
                    refine Goes.st (U' := T29.setTop (mkF m 33 #[.val (.int p1), .val (.int (0 : Int32)), .val (.int (8 : Int32))] [(.int (767 : Int32)), (.int p1)])) (fun t k => X29.iaload hx (j := (9 : Int32)) (v := (.int (767 : Int32))) (by rw [e29]; exact Ar30.1) (State.isArrayOf_alike hZ.alike Ar30.2.1) Ar30.2.2 hin30 hat30 (g := (mkF m 32 #[.val (.int p1), .val (.int (0 : Int32)), .val (.int (8 : Int32))] [(.int (9 : Int32)), (.ref na), (.int p1)])) rfl rfl (hb hby d2_32) t k) ?_
                    rcases Decidable.em ((767 : Int32) < p1) with hc33_4 | hc33_4
                    · refine Goes.st (U' := T29.setTop (mkF m 40 #[.val (.int p1), .val (.int (0 : Int32)), .val (.int (8 : Int32))] [])) (fun t k => XS.icmpYes X29.here hx rfl (pc0 := 33) (pc' := 40) rfl (hb hby d2_33) rfl (tlt hc33_4).2.2.1 (by decide) (by decide) k) ?_
                      refine Goes.st (U' := T29.setTop (mkF m 41 #[.val (.int p1), .val (.int (0 : Int32)), .val (.int (8 : Int32))] [(.int (0 : Int32))])) (fun t k => XS.iconst X29.here hx rfl (hb hby d2_40) k) ?_
                      refine Goes.st (U' := T29.setTop (mkF m 42 #[.val (.int p1), .val (.int (0 : Int32)), .val (.int (8 : Int32))] [])) (fun t k => XS.istoreN X29.here hx rfl (hb hby d2_41) rfl (l' := #[.val (.int p1), .val (.int (0 : Int32)), .val (.int (8 : Int32))]) rfl k) ?_
                      refine Goes.st (U' := T29.setTop (mkF m 45 #[.val (.int p1), .val (.int (0 : Int32)), .val (.int (10 : Int32))] [])) (fun t k => XS.iinc X29.here hx rfl (hb hby d2_42) rfl (l' := #[.val (.int p1), .val (.int (0 : Int32)), .val (.int (10 : Int32))]) rfl k) ?_
                      refine Goes.st (U' := T29.setTop (mkF m 4 #[.val (.int p1), .val (.int (0 : Int32)), .val (.int (10 : Int32))] [])) (fun t k => XS.goto X29.here hx rfl (pc0 := 45) (pc' := 4) rfl (hb hby d2_45) (by decide) (by decide) k) ?_
                      refine Goes.st (U' := T29.setTop (mkF m 5 #[.val (.int p1), .val (.int (0 : Int32)), .val (.int (10 : Int32))] [(.int (10 : Int32))])) (fun t k => XS.iloadN X29.here hx rfl (hb hby d2_4) rfl k) ?_
                      obtain ⟨T31, X31, e31, st31⟩ := getS2 X29 hx hZ hown (host := "") (Or.inl (hw _ (List.mem_of_getElem? (i := 8) rfl))) Via.refl e29 S_NAME_STARTS (g := (mkF m 5 #[.val (.int p1), .val (.int (0 : Int32)), .val (.int (10 : Int32))] [(.int (10 : Int32))])) rfl (hb hby d2_5)
                      refine Goes.st (U' := T31.setTop (mkF m 8 #[.val (.int p1), .val (.int (0 : Int32)), .val (.int (10 : Int32))] [(.ref na), (.int (10 : Int32))])) (fun t k => st31 t k) ?_
                      have Vx32 := V_na
                      obtain ⟨cl32, Ar32, -, S32, Nn32, -, -⟩ := Vx32
                      refine Goes.st (U' := T31.setTop (mkF m 9 #[.val (.int p1), .val (.int (0 : Int32)), .val (.int (10 : Int32))] [(.int (28 : Int32)), (.int (10 : Int32))])) (fun t k => (X31.arraylength hx (by rw [e31]; exact Ar32.1) (State.isArrayOf_alike hZ.alike Ar32.2.1) (g := (mkF m 8 #[.val (.int p1), .val (.int (0 : Int32)), .val (.int (10 : Int32))] [(.ref na), (.int (10 : Int32))])) rfl rfl (hb hby d2_8) t (by rw [len_of S32 Nn32]; exact k))) ?_
                      refine Goes.st (U' := T31.setTop (mkF m 12 #[.val (.int p1), .val (.int (0 : Int32)), .val (.int (10 : Int32))] [])) (fun t k => XS.icmpNo X31.here hx rfl (hb hby d2_9) rfl (tlt (by decide : (10 : Int32) < (28 : Int32))).2.1 k) ?_
                      refine Goes.st (U' := T31.setTop (mkF m 13 #[.val (.int p1), .val (.int (0 : Int32)), .val (.int (10 : Int32))] [(.int (0 : Int32))])) (fun t k => XS.iloadN X31.here hx rfl (hb hby d2_12) rfl k) ?_
                      refine Goes.st (U' := T31.setTop (mkF m 16 #[.val (.int p1), .val (.int (0 : Int32)), .val (.int (10 : Int32))] [])) (fun t k => XS.ifNo X31.here hx rfl (hb hby d2_13) rfl ((if0 _ _).trans (teq (rfl : (0 : Int32) = (0 : Int32))).2) k) ?_
                      refine Goes.st (U' := T31.setTop (mkF m 17 #[.val (.int p1), .val (.int (0 : Int32)), .val (.int (10 : Int32))] [(.int p1)])) (fun t k => XS.iloadN X31.here hx rfl (hb hby d2_16) rfl k) ?_
                      obtain ⟨T33, X33, e33, st33⟩ := getS2 X31 hx hZ hown (host := "") (Or.inl (hw _ (List.mem_of_getElem? (i := 8) rfl))) Via.refl e31 S_NAME_STARTS (g := (mkF m 17 #[.val (.int p1), .val (.int (0 : Int32)), .val (.int (10 : Int32))] [(.int p1)])) rfl (hb hby d2_17)
                      refine Goes.st (U' := T33.setTop (mkF m 20 #[.val (.int p1), .val (.int (0 : Int32)), .val (.int (10 : Int32))] [(.ref na), (.int p1)])) (fun t k => st33 t k) ?_
                      refine Goes.st (U' := T33.setTop (mkF m 21 #[.val (.int p1), .val (.int (0 : Int32)), .val (.int (10 : Int32))] [(.int (10 : Int32)), (.ref na), (.int p1)])) (fun t k => XS.iloadN X33.here hx rfl (hb hby d2_20) rfl k) ?_
                      have Vx34 := V_na
                      obtain ⟨cl34, Ar34, qa34, S34, Nn34, H34, G34⟩ := Vx34
                      have hin34 : ¬ ((10 : Int32) < 0 ∨ cl34.slots.size ≤ ((10 : Int32)).toNatClampNeg) := inb_of S34 ⟨by decide, by decide⟩
                      have hat34 : cl34.slots[((10 : Int32)).toNatClampNeg]? = some (.int (880 : Int32)) := H34.at hin34 rfl
                      refine Goes.st (U' := T33.setTop (mkF m 22 #[.val (.int p1), .val (.int (0 : Int32)), .val (.int (10 : Int32))] [(.int (880 : Int32)), (.int p1)])) (fun t k => X33.iaload hx (j := (10 : Int32)) (v := (.int (880 : Int32))) (by rw [e33]; exact Ar34.1) (State.isArrayOf_alike hZ.alike Ar34.2.1) Ar34.2.2 hin34 hat34 (g := (mkF m 21 #[.val (.int p1), .val (.int (0 : Int32)), .val (.int (10 : Int32))] [(.int (10 : Int32)), (.ref na), (.int p1)])) rfl rfl (hb hby d2_21) t k) ?_
                      rcases Decidable.em (p1 < (880 : Int32)) with hc22_5 | hc22_5
                      · refine Goes.st (U' := T33.setTop (mkF m 48 #[.val (.int p1), .val (.int (0 : Int32)), .val (.int (10 : Int32))] [])) (fun t k => XS.icmpYes X33.here hx rfl (pc0 := 22) (pc' := 48) rfl (hb hby d2_22) rfl (tlt hc22_5).1 (by decide) (by decide) k) ?_
                        refine Goes.st (U' := T33.setTop (mkF m 49 #[.val (.int p1), .val (.int (0 : Int32)), .val (.int (10 : Int32))] [(.int (0 : Int32))])) (fun t k => XS.iloadN X33.here hx rfl (hb hby d2_48) rfl k) ?_
                        refine Goes.retZ X33 hx (BodyLoose.notSynchronized Bd) Bd.returns (hb hby d2_49) rfl (by decide) (by decide) ?_
                        show Q2 Z p1 na k h0 n0 _ T33.heap _
                        rw [e33]
                        exact ⟨(congrArg some (congrArg _ (by unfold fnns; rw [if_neg hc22]; rw [if_pos hc33]; rw [if_neg hc22_1]; rw [if_pos hc33_1]; rw [if_neg hc22_2]; rw [if_pos hc33_2]; rw [if_neg hc22_3]; rw [if_pos hc33_3]; rw [if_neg hc22_4]; rw [if_pos hc33_4]; rw [if_pos hc22_5]))), N0, rfl⟩
                      · refine Goes.st (U' := T33.setTop (mkF m 25 #[.val (.int p1), .val (.int (0 : Int32)), .val (.int (10 : Int32))] [])) (fun t k => XS.icmpNo X33.here hx rfl (hb hby d2_22) rfl (flt hc22_5).1 k) ?_
                        refine Goes.st (U' := T33.setTop (mkF m 26 #[.val (.int p1), .val (.int (0 : Int32)), .val (.int (10 : Int32))] [(.int p1)])) (fun t k => XS.iloadN X33.here hx rfl (hb hby d2_25) rfl k) ?_
                        obtain ⟨T35, X35, e35, st35⟩ := getS2 X33 hx hZ hown (host := "") (Or.inl (hw _ (List.mem_of_getElem? (i := 8) rfl))) Via.refl e33 S_NAME_STARTS (g := (mkF m 26 #[.val (.int p1), .val (.int (0 : Int32)), .val (.int (10 : Int32))] [(.int p1)])) rfl (hb hby d2_26)
                        refine Goes.st (U' := T35.setTop (mkF m 29 #[.val (.int p1), .val (.int (0 : Int32)), .val (.int (10 : Int32))] [(.ref na), (.int p1)])) (fun t k => st35 t k) ?_
                        refine Goes.st (U' := T35.setTop (mkF m 30 #[.val (.int p1), .val (.int (0 : Int32)), .val (.int (10 : Int32))] [(.int (10 : Int32)), (.ref na), (.int p1)])) (fun t k => XS.iloadN X35.here hx rfl (hb hby d2_29) rfl k) ?_
                        refine Goes.st (U' := T35.setTop (mkF m 31 #[.val (.int p1), .val (.int (0 : Int32)), .val (.int (10 : Int32))] [(.int (1 : Int32)), (.int (10 : Int32)), (.ref na), (.int p1)])) (fun t k => XS.iconst X35.here hx rfl (hb hby d2_30) k) ?_
                        refine Goes.st (U' := T35.setTop (mkF m 32 #[.val (.int p1), .val (.int (0 : Int32)), .val (.int (10 : Int32))] [(.int (11 : Int32)), (.ref na), (.int p1)])) (fun t k => XS.iadd X35.here hx rfl (hb hby d2_31) rfl k) ?_
                        have Vx36 := V_na
                        obtain ⟨cl36, Ar36, qa36, S36, Nn36, H36, G36⟩ := Vx36
                        have hin36 : ¬ ((11 : Int32) < 0 ∨ cl36.slots.size ≤ ((11 : Int32)).toNatClampNeg) := inb_of S36 ⟨by decide, by decide⟩
                        have hat36 : cl36.slots[((11 : Int32)).toNatClampNeg]? = some (.int (893 : Int32)) := H36.at hin36 rfl
                        refine Goes.st (U' := T35.setTop (mkF m 33 #[.val (.int p1), .val (.int (0 : Int32)), .val (.int (10 : Int32))] [(.int (893 : Int32)), (.int p1)])) (fun t k => X35.iaload hx (j := (11 : Int32)) (v := (.int (893 : Int32))) (by rw [e35]; exact Ar36.1) (State.isArrayOf_alike hZ.alike Ar36.2.1) Ar36.2.2 hin36 hat36 (g := (mkF m 32 #[.val (.int p1), .val (.int (0 : Int32)), .val (.int (10 : Int32))] [(.int (11 : Int32)), (.ref na), (.int p1)])) rfl rfl (hb hby d2_32) t k) ?_
                        rcases Decidable.em ((893 : Int32) < p1) with hc33_5 | hc33_5
                        · refine Goes.st (U' := T35.setTop (mkF m 40 #[.val (.int p1), .val (.int (0 : Int32)), .val (.int (10 : Int32))] [])) (fun t k => XS.icmpYes X35.here hx rfl (pc0 := 33) (pc' := 40) rfl (hb hby d2_33) rfl (tlt hc33_5).2.2.1 (by decide) (by decide) k) ?_
                          refine Goes.st (U' := T35.setTop (mkF m 41 #[.val (.int p1), .val (.int (0 : Int32)), .val (.int (10 : Int32))] [(.int (0 : Int32))])) (fun t k => XS.iconst X35.here hx rfl (hb hby d2_40) k) ?_
                          refine Goes.st (U' := T35.setTop (mkF m 42 #[.val (.int p1), .val (.int (0 : Int32)), .val (.int (10 : Int32))] [])) (fun t k => XS.istoreN X35.here hx rfl (hb hby d2_41) rfl (l' := #[.val (.int p1), .val (.int (0 : Int32)), .val (.int (10 : Int32))]) rfl k) ?_
                          refine Goes.st (U' := T35.setTop (mkF m 45 #[.val (.int p1), .val (.int (0 : Int32)), .val (.int (12 : Int32))] [])) (fun t k => XS.iinc X35.here hx rfl (hb hby d2_42) rfl (l' := #[.val (.int p1), .val (.int (0 : Int32)), .val (.int (12 : Int32))]) rfl k) ?_
                          refine Goes.st (U' := T35.setTop (mkF m 4 #[.val (.int p1), .val (.int (0 : Int32)), .val (.int (12 : Int32))] [])) (fun t k => XS.goto X35.here hx rfl (pc0 := 45) (pc' := 4) rfl (hb hby d2_45) (by decide) (by decide) k) ?_
                          refine Goes.st (U' := T35.setTop (mkF m 5 #[.val (.int p1), .val (.int (0 : Int32)), .val (.int (12 : Int32))] [(.int (12 : Int32))])) (fun t k => XS.iloadN X35.here hx rfl (hb hby d2_4) rfl k) ?_
                          obtain ⟨T37, X37, e37, st37⟩ := getS2 X35 hx hZ hown (host := "") (Or.inl (hw _ (List.mem_of_getElem? (i := 8) rfl))) Via.refl e35 S_NAME_STARTS (g := (mkF m 5 #[.val (.int p1), .val (.int (0 : Int32)), .val (.int (12 : Int32))] [(.int (12 : Int32))])) rfl (hb hby d2_5)
                          refine Goes.st (U' := T37.setTop (mkF m 8 #[.val (.int p1), .val (.int (0 : Int32)), .val (.int (12 : Int32))] [(.ref na), (.int (12 : Int32))])) (fun t k => st37 t k) ?_
                          have Vx38 := V_na
                          obtain ⟨cl38, Ar38, -, S38, Nn38, -, -⟩ := Vx38
                          refine Goes.st (U' := T37.setTop (mkF m 9 #[.val (.int p1), .val (.int (0 : Int32)), .val (.int (12 : Int32))] [(.int (28 : Int32)), (.int (12 : Int32))])) (fun t k => (X37.arraylength hx (by rw [e37]; exact Ar38.1) (State.isArrayOf_alike hZ.alike Ar38.2.1) (g := (mkF m 8 #[.val (.int p1), .val (.int (0 : Int32)), .val (.int (12 : Int32))] [(.ref na), (.int (12 : Int32))])) rfl rfl (hb hby d2_8) t (by rw [len_of S38 Nn38]; exact k))) ?_
                          refine Goes.st (U' := T37.setTop (mkF m 12 #[.val (.int p1), .val (.int (0 : Int32)), .val (.int (12 : Int32))] [])) (fun t k => XS.icmpNo X37.here hx rfl (hb hby d2_9) rfl (tlt (by decide : (12 : Int32) < (28 : Int32))).2.1 k) ?_
                          refine Goes.st (U' := T37.setTop (mkF m 13 #[.val (.int p1), .val (.int (0 : Int32)), .val (.int (12 : Int32))] [(.int (0 : Int32))])) (fun t k => XS.iloadN X37.here hx rfl (hb hby d2_12) rfl k) ?_
                          refine Goes.st (U' := T37.setTop (mkF m 16 #[.val (.int p1), .val (.int (0 : Int32)), .val (.int (12 : Int32))] [])) (fun t k => XS.ifNo X37.here hx rfl (hb hby d2_13) rfl ((if0 _ _).trans (teq (rfl : (0 : Int32) = (0 : Int32))).2) k) ?_
                          refine Goes.st (U' := T37.setTop (mkF m 17 #[.val (.int p1), .val (.int (0 : Int32)), .val (.int (12 : Int32))] [(.int p1)])) (fun t k => XS.iloadN X37.here hx rfl (hb hby d2_16) rfl k) ?_
                          obtain ⟨T39, X39, e39, st39⟩ := getS2 X37 hx hZ hown (host := "") (Or.inl (hw _ (List.mem_of_getElem? (i := 8) rfl))) Via.refl e37 S_NAME_STARTS (g := (mkF m 17 #[.val (.int p1), .val (.int (0 : Int32)), .val (.int (12 : Int32))] [(.int p1)])) rfl (hb hby d2_17)
                          refine Goes.st (U' := T39.setTop (mkF m 20 #[.val (.int p1), .val (.int (0 : Int32)), .val (.int (12 : Int32))] [(.ref na), (.int p1)])) (fun t k => st39 t k) ?_
                          refine Goes.st (U' := T39.setTop (mkF m 21 #[.val (.int p1), .val (.int (0 : Int32)), .val (.int (12 : Int32))] [(.int (12 : Int32)), (.ref na), (.int p1)])) (fun t k => XS.iloadN X39.here hx rfl (hb hby d2_20) rfl k) ?_
                          have Vx40 := V_na
                          obtain ⟨cl40, Ar40, qa40, S40, Nn40, H40, G40⟩ := Vx40
                          have hin40 : ¬ ((12 : Int32) < 0 ∨ cl40.slots.size ≤ ((12 : Int32)).toNatClampNeg) := inb_of S40 ⟨by decide, by decide⟩
                          have hat40 : cl40.slots[((12 : Int32)).toNatClampNeg]? = some (.int (895 : Int32)) := H40.at hin40 rfl
                          refine Goes.st (U' := T39.setTop (mkF m 22 #[.val (.int p1), .val (.int (0 : Int32)), .val (.int (12 : Int32))] [(.int (895 : Int32)), (.int p1)])) (fun t k => X39.iaload hx (j := (12 : Int32)) (v := (.int (895 : Int32))) (by rw [e39]; exact Ar40.1) (State.isArrayOf_alike hZ.alike Ar40.2.1) Ar40.2.2 hin40 hat40 (g := (mkF m 21 #[.val (.int p1), .val (.int (0 : Int32)), .val (.int (12 : Int32))] [(.int (12 : Int32)), (.ref na), (.int p1)])) rfl rfl (hb hby d2_21) t k) ?_
                          rcases Decidable.em (p1 < (895 : Int32)) with hc22_6 | hc22_6
                          · refine Goes.st (U' := T39.setTop (mkF m 48 #[.val (.int p1), .val (.int (0 : Int32)), .val (.int (12 : Int32))] [])) (fun t k => XS.icmpYes X39.here hx rfl (pc0 := 22) (pc' := 48) rfl (hb hby d2_22) rfl (tlt hc22_6).1 (by decide) (by decide) k) ?_
                            refine Goes.st (U' := T39.setTop (mkF m 49 #[.val (.int p1), .val (.int (0 : Int32)), .val (.int (12 : Int32))] [(.int (0 : Int32))])) (fun t k => XS.iloadN X39.here hx rfl (hb hby d2_48) rfl k) ?_
                            refine Goes.retZ X39 hx (BodyLoose.notSynchronized Bd) Bd.returns (hb hby d2_49) rfl (by decide) (by decide) ?_
                            show Q2 Z p1 na k h0 n0 _ T39.heap _
                            rw [e39]
                            exact ⟨(congrArg some (congrArg _ (by unfold fnns; rw [if_neg hc22]; rw [if_pos hc33]; rw [if_neg hc22_1]; rw [if_pos hc33_1]; rw [if_neg hc22_2]; rw [if_pos hc33_2]; rw [if_neg hc22_3]; rw [if_pos hc33_3]; rw [if_neg hc22_4]; rw [if_pos hc33_4]; rw [if_neg hc22_5]; rw [if_pos hc33_5]; rw [if_pos hc22_6]))), N0, rfl⟩
                          · refine Goes.st (U' := T39.setTop (mkF m 25 #[.val (.int p1), .val (.int (0 : Int32)), .val (.int (12 : Int32))] [])) (fun t k => XS.icmpNo X39.here hx rfl (hb hby d2_22) rfl (flt hc22_6).1 k) ?_
                            refine Goes.st (U' := T39.setTop (mkF m 26 #[.val (.int p1), .val (.int (0 : Int32)), .val (.int (12 : Int32))] [(.int p1)])) (fun t k => XS.iloadN X39.here hx rfl (hb hby d2_25) rfl k) ?_
                            obtain ⟨T41, X41, e41, st41⟩ := getS2 X39 hx hZ hown (host := "") (Or.inl (hw _ (List.mem_of_getElem? (i := 8) rfl))) Via.refl e39 S_NAME_STARTS (g := (mkF m 26 #[.val (.int p1), .val (.int (0 : Int32)), .val (.int (12 : Int32))] [(.int p1)])) rfl (hb hby d2_26)
                            refine Goes.st (U' := T41.setTop (mkF m 29 #[.val (.int p1), .val (.int (0 : Int32)), .val (.int (12 : Int32))] [(.ref na), (.int p1)])) (fun t k => st41 t k) ?_
                            refine Goes.st (U' := T41.setTop (mkF m 30 #[.val (.int p1), .val (.int (0 : Int32)), .val (.int (12 : Int32))] [(.int (12 : Int32)), (.ref na), (.int p1)])) (fun t k => XS.iloadN X41.here hx rfl (hb hby d2_29) rfl k) ?_
                            refine Goes.st (U' := T41.setTop (mkF m 31 #[.val (.int p1), .val (.int (0 : Int32)), .val (.int (12 : Int32))] [(.int (1 : Int32)), (.int (12 : Int32)), (.ref na), (.int p1)])) (fun t k => XS.iconst X41.here hx rfl (hb hby d2_30) k) ?_
                            refine Goes.st (U' := T41.setTop (mkF m 32 #[.val (.int p1), .val (.int (0 : Int32)), .val (.int (12 : Int32))] [(.int (13 : Int32)), (.ref na), (.int p1)])) (fun t k => XS.iadd X41.here hx rfl (hb hby d2_31) rfl k) ?_
                            have Vx42 := V_na
                            obtain ⟨cl42, Ar42, qa42, S42, Nn42, H42, G42⟩ := Vx42
                            have hin42 : ¬ ((13 : Int32) < 0 ∨ cl42.slots.size ≤ ((13 : Int32)).toNatClampNeg) := inb_of S42 ⟨by decide, by decide⟩
                            have hat42 : cl42.slots[((13 : Int32)).toNatClampNeg]? = some (.int (8191 : Int32)) := H42.at hin42 rfl
                            refine Goes.st (U' := T41.setTop (mkF m 33 #[.val (.int p1), .val (.int (0 : Int32)), .val (.int (12 : Int32))] [(.int (8191 : Int32)), (.int p1)])) (fun t k => X41.iaload hx (j := (13 : Int32)) (v := (.int (8191 : Int32))) (by rw [e41]; exact Ar42.1) (State.isArrayOf_alike hZ.alike Ar42.2.1) Ar42.2.2 hin42 hat42 (g := (mkF m 32 #[.val (.int p1), .val (.int (0 : Int32)), .val (.int (12 : Int32))] [(.int (13 : Int32)), (.ref na), (.int p1)])) rfl rfl (hb hby d2_32) t k) ?_
                            rcases Decidable.em ((8191 : Int32) < p1) with hc33_6 | hc33_6
                            · refine Goes.st (U' := T41.setTop (mkF m 40 #[.val (.int p1), .val (.int (0 : Int32)), .val (.int (12 : Int32))] [])) (fun t k => XS.icmpYes X41.here hx rfl (pc0 := 33) (pc' := 40) rfl (hb hby d2_33) rfl (tlt hc33_6).2.2.1 (by decide) (by decide) k) ?_
                              refine Goes.st (U' := T41.setTop (mkF m 41 #[.val (.int p1), .val (.int (0 : Int32)), .val (.int (12 : Int32))] [(.int (0 : Int32))])) (fun t k => XS.iconst X41.here hx rfl (hb hby d2_40) k) ?_
                              refine Goes.st (U' := T41.setTop (mkF m 42 #[.val (.int p1), .val (.int (0 : Int32)), .val (.int (12 : Int32))] [])) (fun t k => XS.istoreN X41.here hx rfl (hb hby d2_41) rfl (l' := #[.val (.int p1), .val (.int (0 : Int32)), .val (.int (12 : Int32))]) rfl k) ?_
                              refine Goes.st (U' := T41.setTop (mkF m 45 #[.val (.int p1), .val (.int (0 : Int32)), .val (.int (14 : Int32))] [])) (fun t k => XS.iinc X41.here hx rfl (hb hby d2_42) rfl (l' := #[.val (.int p1), .val (.int (0 : Int32)), .val (.int (14 : Int32))]) rfl k) ?_
                              refine Goes.st (U' := T41.setTop (mkF m 4 #[.val (.int p1), .val (.int (0 : Int32)), .val (.int (14 : Int32))] [])) (fun t k => XS.goto X41.here hx rfl (pc0 := 45) (pc' := 4) rfl (hb hby d2_45) (by decide) (by decide) k) ?_
                              refine Goes.st (U' := T41.setTop (mkF m 5 #[.val (.int p1), .val (.int (0 : Int32)), .val (.int (14 : Int32))] [(.int (14 : Int32))])) (fun t k => XS.iloadN X41.here hx rfl (hb hby d2_4) rfl k) ?_
                              obtain ⟨T43, X43, e43, st43⟩ := getS2 X41 hx hZ hown (host := "") (Or.inl (hw _ (List.mem_of_getElem? (i := 8) rfl))) Via.refl e41 S_NAME_STARTS (g := (mkF m 5 #[.val (.int p1), .val (.int (0 : Int32)), .val (.int (14 : Int32))] [(.int (14 : Int32))])) rfl (hb hby d2_5)
                              refine Goes.st (U' := T43.setTop (mkF m 8 #[.val (.int p1), .val (.int (0 : Int32)), .val (.int (14 : Int32))] [(.ref na), (.int (14 : Int32))])) (fun t k => st43 t k) ?_
                              have Vx44 := V_na
                              obtain ⟨cl44, Ar44, -, S44, Nn44, -, -⟩ := Vx44
                              refine Goes.st (U' := T43.setTop (mkF m 9 #[.val (.int p1), .val (.int (0 : Int32)), .val (.int (14 : Int32))] [(.int (28 : Int32)), (.int (14 : Int32))])) (fun t k => (X43.arraylength hx (by rw [e43]; exact Ar44.1) (State.isArrayOf_alike hZ.alike Ar44.2.1) (g := (mkF m 8 #[.val (.int p1), .val (.int (0 : Int32)), .val (.int (14 : Int32))] [(.ref na), (.int (14 : Int32))])) rfl rfl (hb hby d2_8) t (by rw [len_of S44 Nn44]; exact k))) ?_
                              refine Goes.st (U' := T43.setTop (mkF m 12 #[.val (.int p1), .val (.int (0 : Int32)), .val (.int (14 : Int32))] [])) (fun t k => XS.icmpNo X43.here hx rfl (hb hby d2_9) rfl (tlt (by decide : (14 : Int32) < (28 : Int32))).2.1 k) ?_
                              refine Goes.st (U' := T43.setTop (mkF m 13 #[.val (.int p1), .val (.int (0 : Int32)), .val (.int (14 : Int32))] [(.int (0 : Int32))])) (fun t k => XS.iloadN X43.here hx rfl (hb hby d2_12) rfl k) ?_
                              refine Goes.st (U' := T43.setTop (mkF m 16 #[.val (.int p1), .val (.int (0 : Int32)), .val (.int (14 : Int32))] [])) (fun t k => XS.ifNo X43.here hx rfl (hb hby d2_13) rfl ((if0 _ _).trans (teq (rfl : (0 : Int32) = (0 : Int32))).2) k) ?_
                              refine Goes.st (U' := T43.setTop (mkF m 17 #[.val (.int p1), .val (.int (0 : Int32)), .val (.int (14 : Int32))] [(.int p1)])) (fun t k => XS.iloadN X43.here hx rfl (hb hby d2_16) rfl k) ?_
                              obtain ⟨T45, X45, e45, st45⟩ := getS2 X43 hx hZ hown (host := "") (Or.inl (hw _ (List.mem_of_getElem? (i := 8) rfl))) Via.refl e43 S_NAME_STARTS (g := (mkF m 17 #[.val (.int p1), .val (.int (0 : Int32)), .val (.int (14 : Int32))] [(.int p1)])) rfl (hb hby d2_17)
                              refine Goes.st (U' := T45.setTop (mkF m 20 #[.val (.int p1), .val (.int (0 : Int32)), .val (.int (14 : Int32))] [(.ref na), (.int p1)])) (fun t k => st45 t k) ?_
                              refine Goes.st (U' := T45.setTop (mkF m 21 #[.val (.int p1), .val (.int (0 : Int32)), .val (.int (14 : Int32))] [(.int (14 : Int32)), (.ref na), (.int p1)])) (fun t k => XS.iloadN X45.here hx rfl (hb hby d2_20) rfl k) ?_
                              have Vx46 := V_na
                              obtain ⟨cl46, Ar46, qa46, S46, Nn46, H46, G46⟩ := Vx46
                              have hin46 : ¬ ((14 : Int32) < 0 ∨ cl46.slots.size ≤ ((14 : Int32)).toNatClampNeg) := inb_of S46 ⟨by decide, by decide⟩
                              have hat46 : cl46.slots[((14 : Int32)).toNatClampNeg]? = some (.int (8204 : Int32)) := H46.at hin46 rfl
                              refine Goes.st (U' := T45.setTop (mkF m 22 #[.val (.int p1), .val (.int (0 : Int32)), .val (.int (14 : Int32))] [(.int (8204 : Int32)), (.int p1)])) (fun t k => X45.iaload hx (j := (14 : Int32)) (v := (.int (8204 : Int32))) (by rw [e45]; exact Ar46.1) (State.isArrayOf_alike hZ.alike Ar46.2.1) Ar46.2.2 hin46 hat46 (g := (mkF m 21 #[.val (.int p1), .val (.int (0 : Int32)), .val (.int (14 : Int32))] [(.int (14 : Int32)), (.ref na), (.int p1)])) rfl rfl (hb hby d2_21) t k) ?_
                              rcases Decidable.em (p1 < (8204 : Int32)) with hc22_7 | hc22_7
                              · refine Goes.st (U' := T45.setTop (mkF m 48 #[.val (.int p1), .val (.int (0 : Int32)), .val (.int (14 : Int32))] [])) (fun t k => XS.icmpYes X45.here hx rfl (pc0 := 22) (pc' := 48) rfl (hb hby d2_22) rfl (tlt hc22_7).1 (by decide) (by decide) k) ?_
                                refine Goes.st (U' := T45.setTop (mkF m 49 #[.val (.int p1), .val (.int (0 : Int32)), .val (.int (14 : Int32))] [(.int (0 : Int32))])) (fun t k => XS.iloadN X45.here hx rfl (hb hby d2_48) rfl k) ?_
                                refine Goes.retZ X45 hx (BodyLoose.notSynchronized Bd) Bd.returns (hb hby d2_49) rfl (by decide) (by decide) ?_
                                show Q2 Z p1 na k h0 n0 _ T45.heap _
                                rw [e45]
                                exact ⟨(congrArg some (congrArg _ (by unfold fnns; rw [if_neg hc22]; rw [if_pos hc33]; rw [if_neg hc22_1]; rw [if_pos hc33_1]; rw [if_neg hc22_2]; rw [if_pos hc33_2]; rw [if_neg hc22_3]; rw [if_pos hc33_3]; rw [if_neg hc22_4]; rw [if_pos hc33_4]; rw [if_neg hc22_5]; rw [if_pos hc33_5]; rw [if_neg hc22_6]; rw [if_pos hc33_6]; rw [if_pos hc22_7]))), N0, rfl⟩
                              · refine Goes.st (U' := T45.setTop (mkF m 25 #[.val (.int p1), .val (.int (0 : Int32)), .val (.int (14 : Int32))] [])) (fun t k => XS.icmpNo X45.here hx rfl (hb hby d2_22) rfl (flt hc22_7).1 k) ?_
                                refine Goes.st (U' := T45.setTop (mkF m 26 #[.val (.int p1), .val (.int (0 : Int32)), .val (.int (14 : Int32))] [(.int p1)])) (fun t k => XS.iloadN X45.here hx rfl (hb hby d2_25) rfl k) ?_
                                obtain ⟨T47, X47, e47, st47⟩ := getS2 X45 hx hZ hown (host := "") (Or.inl (hw _ (List.mem_of_getElem? (i := 8) rfl))) Via.refl e45 S_NAME_STARTS (g := (mkF m 26 #[.val (.int p1), .val (.int (0 : Int32)), .val (.int (14 : Int32))] [(.int p1)])) rfl (hb hby d2_26)
                                refine Goes.st (U' := T47.setTop (mkF m 29 #[.val (.int p1), .val (.int (0 : Int32)), .val (.int (14 : Int32))] [(.ref na), (.int p1)])) (fun t k => st47 t k) ?_
                                refine Goes.st (U' := T47.setTop (mkF m 30 #[.val (.int p1), .val (.int (0 : Int32)), .val (.int (14 : Int32))] [(.int (14 : Int32)), (.ref na), (.int p1)])) (fun t k => XS.iloadN X47.here hx rfl (hb hby d2_29) rfl k) ?_
                                refine Goes.st (U' := T47.setTop (mkF m 31 #[.val (.int p1), .val (.int (0 : Int32)), .val (.int (14 : Int32))] [(.int (1 : Int32)), (.int (14 : Int32)), (.ref na), (.int p1)])) (fun t k => XS.iconst X47.here hx rfl (hb hby d2_30) k) ?_
                                refine Goes.st (U' := T47.setTop (mkF m 32 #[.val (.int p1), .val (.int (0 : Int32)), .val (.int (14 : Int32))] [(.int (15 : Int32)), (.ref na), (.int p1)])) (fun t k => XS.iadd X47.here hx rfl (hb hby d2_31) rfl k) ?_
                                have Vx48 := V_na
                                obtain ⟨cl48, Ar48, qa48, S48, Nn48, H48, G48⟩ := Vx48
                                have hin48 : ¬ ((15 : Int32) < 0 ∨ cl48.slots.size ≤ ((15 : Int32)).toNatClampNeg) := inb_of S48 ⟨by decide, by decide⟩
                                have hat48 : cl48.slots[((15 : Int32)).toNatClampNeg]? = some (.int (8205 : Int32)) := H48.at hin48 rfl
                                refine Goes.st (U' := T47.setTop (mkF m 33 #[.val (.int p1), .val (.int (0 : Int32)), .val (.int (14 : Int32))] [(.int (8205 : Int32)), (.int p1)])) (fun t k => X47.iaload hx (j := (15 : Int32)) (v := (.int (8205 : Int32))) (by rw [e47]; exact Ar48.1) (State.isArrayOf_alike hZ.alike Ar48.2.1) Ar48.2.2 hin48 hat48 (g := (mkF m 32 #[.val (.int p1), .val (.int (0 : Int32)), .val (.int (14 : Int32))] [(.int (15 : Int32)), (.ref na), (.int p1)])) rfl rfl (hb hby d2_32) t k) ?_
                                rcases Decidable.em ((8205 : Int32) < p1) with hc33_7 | hc33_7
                                · refine Goes.st (U' := T47.setTop (mkF m 40 #[.val (.int p1), .val (.int (0 : Int32)), .val (.int (14 : Int32))] [])) (fun t k => XS.icmpYes X47.here hx rfl (pc0 := 33) (pc' := 40) rfl (hb hby d2_33) rfl (tlt hc33_7).2.2.1 (by decide) (by decide) k) ?_
                                  refine Goes.st (U' := T47.setTop (mkF m 41 #[.val (.int p1), .val (.int (0 : Int32)), .val (.int (14 : Int32))] [(.int (0 : Int32))])) (fun t k => XS.iconst X47.here hx rfl (hb hby d2_40) k) ?_
                                  refine Goes.st (U' := T47.setTop (mkF m 42 #[.val (.int p1), .val (.int (0 : Int32)), .val (.int (14 : Int32))] [])) (fun t k => XS.istoreN X47.here hx rfl (hb hby d2_41) rfl (l' := #[.val (.int p1), .val (.int (0 : Int32)), .val (.int (14 : Int32))]) rfl k) ?_
                                  refine Goes.st (U' := T47.setTop (mkF m 45 #[.val (.int p1), .val (.int (0 : Int32)), .val (.int (16 : Int32))] [])) (fun t k => XS.iinc X47.here hx rfl (hb hby d2_42) rfl (l' := #[.val (.int p1), .val (.int (0 : Int32)), .val (.int (16 : Int32))]) rfl k) ?_
                                  refine Goes.st (U' := T47.setTop (mkF m 4 #[.val (.int p1), .val (.int (0 : Int32)), .val (.int (16 : Int32))] [])) (fun t k => XS.goto X47.here hx rfl (pc0 := 45) (pc' := 4) rfl (hb hby d2_45) (by decide) (by decide) k) ?_
                                  refine Goes.st (U' := T47.setTop (mkF m 5 #[.val (.int p1), .val (.int (0 : Int32)), .val (.int (16 : Int32))] [(.int (16 : Int32))])) (fun t k => XS.iloadN X47.here hx rfl (hb hby d2_4) rfl k) ?_
                                  obtain ⟨T49, X49, e49, st49⟩ := getS2 X47 hx hZ hown (host := "") (Or.inl (hw _ (List.mem_of_getElem? (i := 8) rfl))) Via.refl e47 S_NAME_STARTS (g := (mkF m 5 #[.val (.int p1), .val (.int (0 : Int32)), .val (.int (16 : Int32))] [(.int (16 : Int32))])) rfl (hb hby d2_5)
                                  refine Goes.st (U' := T49.setTop (mkF m 8 #[.val (.int p1), .val (.int (0 : Int32)), .val (.int (16 : Int32))] [(.ref na), (.int (16 : Int32))])) (fun t k => st49 t k) ?_
                                  have Vx50 := V_na
                                  obtain ⟨cl50, Ar50, -, S50, Nn50, -, -⟩ := Vx50
                                  refine Goes.st (U' := T49.setTop (mkF m 9 #[.val (.int p1), .val (.int (0 : Int32)), .val (.int (16 : Int32))] [(.int (28 : Int32)), (.int (16 : Int32))])) (fun t k => (X49.arraylength hx (by rw [e49]; exact Ar50.1) (State.isArrayOf_alike hZ.alike Ar50.2.1) (g := (mkF m 8 #[.val (.int p1), .val (.int (0 : Int32)), .val (.int (16 : Int32))] [(.ref na), (.int (16 : Int32))])) rfl rfl (hb hby d2_8) t (by rw [len_of S50 Nn50]; exact k))) ?_
                                  refine Goes.st (U' := T49.setTop (mkF m 12 #[.val (.int p1), .val (.int (0 : Int32)), .val (.int (16 : Int32))] [])) (fun t k => XS.icmpNo X49.here hx rfl (hb hby d2_9) rfl (tlt (by decide : (16 : Int32) < (28 : Int32))).2.1 k) ?_
                                  refine Goes.st (U' := T49.setTop (mkF m 13 #[.val (.int p1), .val (.int (0 : Int32)), .val (.int (16 : Int32))] [(.int (0 : Int32))])) (fun t k => XS.iloadN X49.here hx rfl (hb hby d2_12) rfl k) ?_
                                  refine Goes.st (U' := T49.setTop (mkF m 16 #[.val (.int p1), .val (.int (0 : Int32)), .val (.int (16 : Int32))] [])) (fun t k => XS.ifNo X49.here hx rfl (hb hby d2_13) rfl ((if0 _ _).trans (teq (rfl : (0 : Int32) = (0 : Int32))).2) k) ?_
                                  refine Goes.st (U' := T49.setTop (mkF m 17 #[.val (.int p1), .val (.int (0 : Int32)), .val (.int (16 : Int32))] [(.int p1)])) (fun t k => XS.iloadN X49.here hx rfl (hb hby d2_16) rfl k) ?_
                                  obtain ⟨T51, X51, e51, st51⟩ := getS2 X49 hx hZ hown (host := "") (Or.inl (hw _ (List.mem_of_getElem? (i := 8) rfl))) Via.refl e49 S_NAME_STARTS (g := (mkF m 17 #[.val (.int p1), .val (.int (0 : Int32)), .val (.int (16 : Int32))] [(.int p1)])) rfl (hb hby d2_17)
                                  refine Goes.st (U' := T51.setTop (mkF m 20 #[.val (.int p1), .val (.int (0 : Int32)), .val (.int (16 : Int32))] [(.ref na), (.int p1)])) (fun t k => st51 t k) ?_
                                  refine Goes.st (U' := T51.setTop (mkF m 21 #[.val (.int p1), .val (.int (0 : Int32)), .val (.int (16 : Int32))] [(.int (16 : Int32)), (.ref na), (.int p1)])) (fun t k => XS.iloadN X51.here hx rfl (hb hby d2_20) rfl k) ?_
                                  have Vx52 := V_na
                                  obtain ⟨cl52, Ar52, qa52, S52, Nn52, H52, G52⟩ := Vx52
                                  have hin52 : ¬ ((16 : Int32) < 0 ∨ cl52.slots.size ≤ ((16 : Int32)).toNatClampNeg) := inb_of S52 ⟨by decide, by decide⟩
                                  have hat52 : cl52.slots[((16 : Int32)).toNatClampNeg]? = some (.int (8304 : Int32)) := H52.at hin52 rfl
                                  refine Goes.st (U' := T51.setTop (mkF m 22 #[.val (.int p1), .val (.int (0 : Int32)), .val (.int (16 : Int32))] [(.int (8304 : Int32)), (.int p1)])) (fun t k => X51.iaload hx (j := (16 : Int32)) (v := (.int (8304 : Int32))) (by rw [e51]; exact Ar52.1) (State.isArrayOf_alike hZ.alike Ar52.2.1) Ar52.2.2 hin52 hat52 (g := (mkF m 21 #[.val (.int p1), .val (.int (0 : Int32)), .val (.int (16 : Int32))] [(.int (16 : Int32)), (.ref na), (.int p1)])) rfl rfl (hb hby d2_21) t k) ?_
                                  rcases Decidable.em (p1 < (8304 : Int32)) with hc22_8 | hc22_8
                                  · refine Goes.st (U' := T51.setTop (mkF m 48 #[.val (.int p1), .val (.int (0 : Int32)), .val (.int (16 : Int32))] [])) (fun t k => XS.icmpYes X51.here hx rfl (pc0 := 22) (pc' := 48) rfl (hb hby d2_22) rfl (tlt hc22_8).1 (by decide) (by decide) k) ?_
                                    refine Goes.st (U' := T51.setTop (mkF m 49 #[.val (.int p1), .val (.int (0 : Int32)), .val (.int (16 : Int32))] [(.int (0 : Int32))])) (fun t k => XS.iloadN X51.here hx rfl (hb hby d2_48) rfl k) ?_
                                    refine Goes.retZ X51 hx (BodyLoose.notSynchronized Bd) Bd.returns (hb hby d2_49) rfl (by decide) (by decide) ?_
                                    show Q2 Z p1 na k h0 n0 _ T51.heap _
                                    rw [e51]
                                    exact ⟨(congrArg some (congrArg _ (by unfold fnns; rw [if_neg hc22]; rw [if_pos hc33]; rw [if_neg hc22_1]; rw [if_pos hc33_1]; rw [if_neg hc22_2]; rw [if_pos hc33_2]; rw [if_neg hc22_3]; rw [if_pos hc33_3]; rw [if_neg hc22_4]; rw [if_pos hc33_4]; rw [if_neg hc22_5]; rw [if_pos hc33_5]; rw [if_neg hc22_6]; rw [if_pos hc33_6]; rw [if_neg hc22_7]; rw [if_pos hc33_7]; rw [if_pos hc22_8]))), N0, rfl⟩
                                  · refine Goes.st (U' := T51.setTop (mkF m 25 #[.val (.int p1), .val (.int (0 : Int32)), .val (.int (16 : Int32))] [])) (fun t k => XS.icmpNo X51.here hx rfl (hb hby d2_22) rfl (flt hc22_8).1 k) ?_
                                    refine Goes.st (U' := T51.setTop (mkF m 26 #[.val (.int p1), .val (.int (0 : Int32)), .val (.int (16 : Int32))] [(.int p1)])) (fun t k => XS.iloadN X51.here hx rfl (hb hby d2_25) rfl k) ?_
                                    obtain ⟨T53, X53, e53, st53⟩ := getS2 X51 hx hZ hown (host := "") (Or.inl (hw _ (List.mem_of_getElem? (i := 8) rfl))) Via.refl e51 S_NAME_STARTS (g := (mkF m 26 #[.val (.int p1), .val (.int (0 : Int32)), .val (.int (16 : Int32))] [(.int p1)])) rfl (hb hby d2_26)
                                    refine Goes.st (U' := T53.setTop (mkF m 29 #[.val (.int p1), .val (.int (0 : Int32)), .val (.int (16 : Int32))] [(.ref na), (.int p1)])) (fun t k => st53 t k) ?_
                                    refine Goes.st (U' := T53.setTop (mkF m 30 #[.val (.int p1), .val (.int (0 : Int32)), .val (.int (16 : Int32))] [(.int (16 : Int32)), (.ref na), (.int p1)])) (fun t k => XS.iloadN X53.here hx rfl (hb hby d2_29) rfl k) ?_
                                    refine Goes.st (U' := T53.setTop (mkF m 31 #[.val (.int p1), .val (.int (0 : Int32)), .val (.int (16 : Int32))] [(.int (1 : Int32)), (.int (16 : Int32)), (.ref na), (.int p1)])) (fun t k => XS.iconst X53.here hx rfl (hb hby d2_30) k) ?_
                                    refine Goes.st (U' := T53.setTop (mkF m 32 #[.val (.int p1), .val (.int (0 : Int32)), .val (.int (16 : Int32))] [(.int (17 : Int32)), (.ref na), (.int p1)])) (fun t k => XS.iadd X53.here hx rfl (hb hby d2_31) rfl k) ?_
                                    have Vx54 := V_na
                                    obtain ⟨cl54, Ar54, qa54, S54, Nn54, H54, G54⟩ := Vx54
                                    have hin54 : ¬ ((17 : Int32) < 0 ∨ cl54.slots.size ≤ ((17 : Int32)).toNatClampNeg) := inb_of S54 ⟨by decide, by decide⟩
                                    have hat54 : cl54.slots[((17 : Int32)).toNatClampNeg]? = some (.int (8591 : Int32)) := H54.at hin54 rfl
                                    refine Goes.st (U' := T53.setTop (mkF m 33 #[.val (.int p1), .val (.int (0 : Int32)), .val (.int (16 : Int32))] [(.int (8591 : Int32)), (.int p1)])) (fun t k => X53.iaload hx (j := (17 : Int32)) (v := (.int (8591 : Int32))) (by rw [e53]; exact Ar54.1) (State.isArrayOf_alike hZ.alike Ar54.2.1) Ar54.2.2 hin54 hat54 (g := (mkF m 32 #[.val (.int p1), .val (.int (0 : Int32)), .val (.int (16 : Int32))] [(.int (17 : Int32)), (.ref na), (.int p1)])) rfl rfl (hb hby d2_32) t k) ?_
                                    rcases Decidable.em ((8591 : Int32) < p1) with hc33_8 | hc33_8
                                    · refine Goes.st (U' := T53.setTop (mkF m 40 #[.val (.int p1), .val (.int (0 : Int32)), .val (.int (16 : Int32))] [])) (fun t k => XS.icmpYes X53.here hx rfl (pc0 := 33) (pc' := 40) rfl (hb hby d2_33) rfl (tlt hc33_8).2.2.1 (by decide) (by decide) k) ?_
                                      refine Goes.st (U' := T53.setTop (mkF m 41 #[.val (.int p1), .val (.int (0 : Int32)), .val (.int (16 : Int32))] [(.int (0 : Int32))])) (fun t k => XS.iconst X53.here hx rfl (hb hby d2_40) k) ?_
                                      refine Goes.st (U' := T53.setTop (mkF m 42 #[.val (.int p1), .val (.int (0 : Int32)), .val (.int (16 : Int32))] [])) (fun t k => XS.istoreN X53.here hx rfl (hb hby d2_41) rfl (l' := #[.val (.int p1), .val (.int (0 : Int32)), .val (.int (16 : Int32))]) rfl k) ?_
                                      refine Goes.st (U' := T53.setTop (mkF m 45 #[.val (.int p1), .val (.int (0 : Int32)), .val (.int (18 : Int32))] [])) (fun t k => XS.iinc X53.here hx rfl (hb hby d2_42) rfl (l' := #[.val (.int p1), .val (.int (0 : Int32)), .val (.int (18 : Int32))]) rfl k) ?_
                                      refine Goes.st (U' := T53.setTop (mkF m 4 #[.val (.int p1), .val (.int (0 : Int32)), .val (.int (18 : Int32))] [])) (fun t k => XS.goto X53.here hx rfl (pc0 := 45) (pc' := 4) rfl (hb hby d2_45) (by decide) (by decide) k) ?_
                                      refine Goes.st (U' := T53.setTop (mkF m 5 #[.val (.int p1), .val (.int (0 : Int32)), .val (.int (18 : Int32))] [(.int (18 : Int32))])) (fun t k => XS.iloadN X53.here hx rfl (hb hby d2_4) rfl k) ?_
                                      obtain ⟨T55, X55, e55, st55⟩ := getS2 X53 hx hZ hown (host := "") (Or.inl (hw _ (List.mem_of_getElem? (i := 8) rfl))) Via.refl e53 S_NAME_STARTS (g := (mkF m 5 #[.val (.int p1), .val (.int (0 : Int32)), .val (.int (18 : Int32))] [(.int (18 : Int32))])) rfl (hb hby d2_5)
                                      refine Goes.st (U' := T55.setTop (mkF m 8 #[.val (.int p1), .val (.int (0 : Int32)), .val (.int (18 : Int32))] [(.ref na), (.int (18 : Int32))])) (fun t k => st55 t k) ?_
                                      have Vx56 := V_na
                                      obtain ⟨cl56, Ar56, -, S56, Nn56, -, -⟩ := Vx56
                                      refine Goes.st (U' := T55.setTop (mkF m 9 #[.val (.int p1), .val (.int (0 : Int32)), .val (.int (18 : Int32))] [(.int (28 : Int32)), (.int (18 : Int32))])) (fun t k => (X55.arraylength hx (by rw [e55]; exact Ar56.1) (State.isArrayOf_alike hZ.alike Ar56.2.1) (g := (mkF m 8 #[.val (.int p1), .val (.int (0 : Int32)), .val (.int (18 : Int32))] [(.ref na), (.int (18 : Int32))])) rfl rfl (hb hby d2_8) t (by rw [len_of S56 Nn56]; exact k))) ?_
                                      refine Goes.st (U' := T55.setTop (mkF m 12 #[.val (.int p1), .val (.int (0 : Int32)), .val (.int (18 : Int32))] [])) (fun t k => XS.icmpNo X55.here hx rfl (hb hby d2_9) rfl (tlt (by decide : (18 : Int32) < (28 : Int32))).2.1 k) ?_
                                      refine Goes.st (U' := T55.setTop (mkF m 13 #[.val (.int p1), .val (.int (0 : Int32)), .val (.int (18 : Int32))] [(.int (0 : Int32))])) (fun t k => XS.iloadN X55.here hx rfl (hb hby d2_12) rfl k) ?_
                                      refine Goes.st (U' := T55.setTop (mkF m 16 #[.val (.int p1), .val (.int (0 : Int32)), .val (.int (18 : Int32))] [])) (fun t k => XS.ifNo X55.here hx rfl (hb hby d2_13) rfl ((if0 _ _).trans (teq (rfl : (0 : Int32) = (0 : Int32))).2) k) ?_
                                      refine Goes.st (U' := T55.setTop (mkF m 17 #[.val (.int p1), .val (.int (0 : Int32)), .val (.int (18 : Int32))] [(.int p1)])) (fun t k => XS.iloadN X55.here hx rfl (hb hby d2_16) rfl k) ?_
                                      obtain ⟨T57, X57, e57, st57⟩ := getS2 X55 hx hZ hown (host := "") (Or.inl (hw _ (List.mem_of_getElem? (i := 8) rfl))) Via.refl e55 S_NAME_STARTS (g := (mkF m 17 #[.val (.int p1), .val (.int (0 : Int32)), .val (.int (18 : Int32))] [(.int p1)])) rfl (hb hby d2_17)
                                      refine Goes.st (U' := T57.setTop (mkF m 20 #[.val (.int p1), .val (.int (0 : Int32)), .val (.int (18 : Int32))] [(.ref na), (.int p1)])) (fun t k => st57 t k) ?_
                                      refine Goes.st (U' := T57.setTop (mkF m 21 #[.val (.int p1), .val (.int (0 : Int32)), .val (.int (18 : Int32))] [(.int (18 : Int32)), (.ref na), (.int p1)])) (fun t k => XS.iloadN X57.here hx rfl (hb hby d2_20) rfl k) ?_
                                      have Vx58 := V_na
                                      obtain ⟨cl58, Ar58, qa58, S58, Nn58, H58, G58⟩ := Vx58
                                      have hin58 : ¬ ((18 : Int32) < 0 ∨ cl58.slots.size ≤ ((18 : Int32)).toNatClampNeg) := inb_of S58 ⟨by decide, by decide⟩
                                      have hat58 : cl58.slots[((18 : Int32)).toNatClampNeg]? = some (.int (11264 : Int32)) := H58.at hin58 rfl
                                      refine Goes.st (U' := T57.setTop (mkF m 22 #[.val (.int p1), .val (.int (0 : Int32)), .val (.int (18 : Int32))] [(.int (11264 : Int32)), (.int p1)])) (fun t k => X57.iaload hx (j := (18 : Int32)) (v := (.int (11264 : Int32))) (by rw [e57]; exact Ar58.1) (State.isArrayOf_alike hZ.alike Ar58.2.1) Ar58.2.2 hin58 hat58 (g := (mkF m 21 #[.val (.int p1), .val (.int (0 : Int32)), .val (.int (18 : Int32))] [(.int (18 : Int32)), (.ref na), (.int p1)])) rfl rfl (hb hby d2_21) t k) ?_
                                      rcases Decidable.em (p1 < (11264 : Int32)) with hc22_9 | hc22_9
                                      · refine Goes.st (U' := T57.setTop (mkF m 48 #[.val (.int p1), .val (.int (0 : Int32)), .val (.int (18 : Int32))] [])) (fun t k => XS.icmpYes X57.here hx rfl (pc0 := 22) (pc' := 48) rfl (hb hby d2_22) rfl (tlt hc22_9).1 (by decide) (by decide) k) ?_
                                        refine Goes.st (U' := T57.setTop (mkF m 49 #[.val (.int p1), .val (.int (0 : Int32)), .val (.int (18 : Int32))] [(.int (0 : Int32))])) (fun t k => XS.iloadN X57.here hx rfl (hb hby d2_48) rfl k) ?_
                                        refine Goes.retZ X57 hx (BodyLoose.notSynchronized Bd) Bd.returns (hb hby d2_49) rfl (by decide) (by decide) ?_
                                        show Q2 Z p1 na k h0 n0 _ T57.heap _
                                        rw [e57]
                                        exact ⟨(congrArg some (congrArg _ (by unfold fnns; rw [if_neg hc22]; rw [if_pos hc33]; rw [if_neg hc22_1]; rw [if_pos hc33_1]; rw [if_neg hc22_2]; rw [if_pos hc33_2]; rw [if_neg hc22_3]; rw [if_pos hc33_3]; rw [if_neg hc22_4]; rw [if_pos hc33_4]; rw [if_neg hc22_5]; rw [if_pos hc33_5]; rw [if_neg hc22_6]; rw [if_pos hc33_6]; rw [if_neg hc22_7]; rw [if_pos hc33_7]; rw [if_neg hc22_8]; rw [if_pos hc33_8]; rw [if_pos hc22_9]))), N0, rfl⟩
                                      · refine Goes.st (U' := T57.setTop (mkF m 25 #[.val (.int p1), .val (.int (0 : Int32)), .val (.int (18 : Int32))] [])) (fun t k => XS.icmpNo X57.here hx rfl (hb hby d2_22) rfl (flt hc22_9).1 k) ?_
                                        refine Goes.st (U' := T57.setTop (mkF m 26 #[.val (.int p1), .val (.int (0 : Int32)), .val (.int (18 : Int32))] [(.int p1)])) (fun t k => XS.iloadN X57.here hx rfl (hb hby d2_25) rfl k) ?_
                                        obtain ⟨T59, X59, e59, st59⟩ := getS2 X57 hx hZ hown (host := "") (Or.inl (hw _ (List.mem_of_getElem? (i := 8) rfl))) Via.refl e57 S_NAME_STARTS (g := (mkF m 26 #[.val (.int p1), .val (.int (0 : Int32)), .val (.int (18 : Int32))] [(.int p1)])) rfl (hb hby d2_26)
                                        refine Goes.st (U' := T59.setTop (mkF m 29 #[.val (.int p1), .val (.int (0 : Int32)), .val (.int (18 : Int32))] [(.ref na), (.int p1)])) (fun t k => st59 t k) ?_
                                        refine Goes.st (U' := T59.setTop (mkF m 30 #[.val (.int p1), .val (.int (0 : Int32)), .val (.int (18 : Int32))] [(.int (18 : Int32)), (.ref na), (.int p1)])) (fun t k => XS.iloadN X59.here hx rfl (hb hby d2_29) rfl k) ?_
                                        refine Goes.st (U' := T59.setTop (mkF m 31 #[.val (.int p1), .val (.int (0 : Int32)), .val (.int (18 : Int32))] [(.int (1 : Int32)), (.int (18 : Int32)), (.ref na), (.int p1)])) (fun t k => XS.iconst X59.here hx rfl (hb hby d2_30) k) ?_
                                        refine Goes.st (U' := T59.setTop (mkF m 32 #[.val (.int p1), .val (.int (0 : Int32)), .val (.int (18 : Int32))] [(.int (19 : Int32)), (.ref na), (.int p1)])) (fun t k => XS.iadd X59.here hx rfl (hb hby d2_31) rfl k) ?_
                                        have Vx60 := V_na
                                        obtain ⟨cl60, Ar60, qa60, S60, Nn60, H60, G60⟩ := Vx60
                                        have hin60 : ¬ ((19 : Int32) < 0 ∨ cl60.slots.size ≤ ((19 : Int32)).toNatClampNeg) := inb_of S60 ⟨by decide, by decide⟩
                                        have hat60 : cl60.slots[((19 : Int32)).toNatClampNeg]? = some (.int (12271 : Int32)) := H60.at hin60 rfl
                                        refine Goes.st (U' := T59.setTop (mkF m 33 #[.val (.int p1), .val (.int (0 : Int32)), .val (.int (18 : Int32))] [(.int (12271 : Int32)), (.int p1)])) (fun t k => X59.iaload hx (j := (19 : Int32)) (v := (.int (12271 : Int32))) (by rw [e59]; exact Ar60.1) (State.isArrayOf_alike hZ.alike Ar60.2.1) Ar60.2.2 hin60 hat60 (g := (mkF m 32 #[.val (.int p1), .val (.int (0 : Int32)), .val (.int (18 : Int32))] [(.int (19 : Int32)), (.ref na), (.int p1)])) rfl rfl (hb hby d2_32) t k) ?_
                                        rcases Decidable.em ((12271 : Int32) < p1) with hc33_9 | hc33_9
                                        · refine Goes.st (U' := T59.setTop (mkF m 40 #[.val (.int p1), .val (.int (0 : Int32)), .val (.int (18 : Int32))] [])) (fun t k => XS.icmpYes X59.here hx rfl (pc0 := 33) (pc' := 40) rfl (hb hby d2_33) rfl (tlt hc33_9).2.2.1 (by decide) (by decide) k) ?_
                                          refine Goes.st (U' := T59.setTop (mkF m 41 #[.val (.int p1), .val (.int (0 : Int32)), .val (.int (18 : Int32))] [(.int (0 : Int32))])) (fun t k => XS.iconst X59.here hx rfl (hb hby d2_40) k) ?_
                                          refine Goes.st (U' := T59.setTop (mkF m 42 #[.val (.int p1), .val (.int (0 : Int32)), .val (.int (18 : Int32))] [])) (fun t k => XS.istoreN X59.here hx rfl (hb hby d2_41) rfl (l' := #[.val (.int p1), .val (.int (0 : Int32)), .val (.int (18 : Int32))]) rfl k) ?_
                                          refine Goes.st (U' := T59.setTop (mkF m 45 #[.val (.int p1), .val (.int (0 : Int32)), .val (.int (20 : Int32))] [])) (fun t k => XS.iinc X59.here hx rfl (hb hby d2_42) rfl (l' := #[.val (.int p1), .val (.int (0 : Int32)), .val (.int (20 : Int32))]) rfl k) ?_
                                          refine Goes.st (U' := T59.setTop (mkF m 4 #[.val (.int p1), .val (.int (0 : Int32)), .val (.int (20 : Int32))] [])) (fun t k => XS.goto X59.here hx rfl (pc0 := 45) (pc' := 4) rfl (hb hby d2_45) (by decide) (by decide) k) ?_
                                          refine Goes.st (U' := T59.setTop (mkF m 5 #[.val (.int p1), .val (.int (0 : Int32)), .val (.int (20 : Int32))] [(.int (20 : Int32))])) (fun t k => XS.iloadN X59.here hx rfl (hb hby d2_4) rfl k) ?_
                                          obtain ⟨T61, X61, e61, st61⟩ := getS2 X59 hx hZ hown (host := "") (Or.inl (hw _ (List.mem_of_getElem? (i := 8) rfl))) Via.refl e59 S_NAME_STARTS (g := (mkF m 5 #[.val (.int p1), .val (.int (0 : Int32)), .val (.int (20 : Int32))] [(.int (20 : Int32))])) rfl (hb hby d2_5)
                                          refine Goes.st (U' := T61.setTop (mkF m 8 #[.val (.int p1), .val (.int (0 : Int32)), .val (.int (20 : Int32))] [(.ref na), (.int (20 : Int32))])) (fun t k => st61 t k) ?_
                                          have Vx62 := V_na
                                          obtain ⟨cl62, Ar62, -, S62, Nn62, -, -⟩ := Vx62
                                          refine Goes.st (U' := T61.setTop (mkF m 9 #[.val (.int p1), .val (.int (0 : Int32)), .val (.int (20 : Int32))] [(.int (28 : Int32)), (.int (20 : Int32))])) (fun t k => (X61.arraylength hx (by rw [e61]; exact Ar62.1) (State.isArrayOf_alike hZ.alike Ar62.2.1) (g := (mkF m 8 #[.val (.int p1), .val (.int (0 : Int32)), .val (.int (20 : Int32))] [(.ref na), (.int (20 : Int32))])) rfl rfl (hb hby d2_8) t (by rw [len_of S62 Nn62]; exact k))) ?_
                                          refine Goes.st (U' := T61.setTop (mkF m 12 #[.val (.int p1), .val (.int (0 : Int32)), .val (.int (20 : Int32))] [])) (fun t k => XS.icmpNo X61.here hx rfl (hb hby d2_9) rfl (tlt (by decide : (20 : Int32) < (28 : Int32))).2.1 k) ?_
                                          refine Goes.st (U' := T61.setTop (mkF m 13 #[.val (.int p1), .val (.int (0 : Int32)), .val (.int (20 : Int32))] [(.int (0 : Int32))])) (fun t k => XS.iloadN X61.here hx rfl (hb hby d2_12) rfl k) ?_
                                          refine Goes.st (U' := T61.setTop (mkF m 16 #[.val (.int p1), .val (.int (0 : Int32)), .val (.int (20 : Int32))] [])) (fun t k => XS.ifNo X61.here hx rfl (hb hby d2_13) rfl ((if0 _ _).trans (teq (rfl : (0 : Int32) = (0 : Int32))).2) k) ?_
                                          refine Goes.st (U' := T61.setTop (mkF m 17 #[.val (.int p1), .val (.int (0 : Int32)), .val (.int (20 : Int32))] [(.int p1)])) (fun t k => XS.iloadN X61.here hx rfl (hb hby d2_16) rfl k) ?_
                                          obtain ⟨T63, X63, e63, st63⟩ := getS2 X61 hx hZ hown (host := "") (Or.inl (hw _ (List.mem_of_getElem? (i := 8) rfl))) Via.refl e61 S_NAME_STARTS (g := (mkF m 17 #[.val (.int p1), .val (.int (0 : Int32)), .val (.int (20 : Int32))] [(.int p1)])) rfl (hb hby d2_17)
                                          refine Goes.st (U' := T63.setTop (mkF m 20 #[.val (.int p1), .val (.int (0 : Int32)), .val (.int (20 : Int32))] [(.ref na), (.int p1)])) (fun t k => st63 t k) ?_
                                          refine Goes.st (U' := T63.setTop (mkF m 21 #[.val (.int p1), .val (.int (0 : Int32)), .val (.int (20 : Int32))] [(.int (20 : Int32)), (.ref na), (.int p1)])) (fun t k => XS.iloadN X63.here hx rfl (hb hby d2_20) rfl k) ?_
                                          have Vx64 := V_na
                                          obtain ⟨cl64, Ar64, qa64, S64, Nn64, H64, G64⟩ := Vx64
                                          have hin64 : ¬ ((20 : Int32) < 0 ∨ cl64.slots.size ≤ ((20 : Int32)).toNatClampNeg) := inb_of S64 ⟨by decide, by decide⟩
                                          have hat64 : cl64.slots[((20 : Int32)).toNatClampNeg]? = some (.int (12289 : Int32)) := H64.at hin64 rfl
                                          refine Goes.st (U' := T63.setTop (mkF m 22 #[.val (.int p1), .val (.int (0 : Int32)), .val (.int (20 : Int32))] [(.int (12289 : Int32)), (.int p1)])) (fun t k => X63.iaload hx (j := (20 : Int32)) (v := (.int (12289 : Int32))) (by rw [e63]; exact Ar64.1) (State.isArrayOf_alike hZ.alike Ar64.2.1) Ar64.2.2 hin64 hat64 (g := (mkF m 21 #[.val (.int p1), .val (.int (0 : Int32)), .val (.int (20 : Int32))] [(.int (20 : Int32)), (.ref na), (.int p1)])) rfl rfl (hb hby d2_21) t k) ?_
                                          rcases Decidable.em (p1 < (12289 : Int32)) with hc22_10 | hc22_10
                                          · refine Goes.st (U' := T63.setTop (mkF m 48 #[.val (.int p1), .val (.int (0 : Int32)), .val (.int (20 : Int32))] [])) (fun t k => XS.icmpYes X63.here hx rfl (pc0 := 22) (pc' := 48) rfl (hb hby d2_22) rfl (tlt hc22_10).1 (by decide) (by decide) k) ?_
                                            refine Goes.st (U' := T63.setTop (mkF m 49 #[.val (.int p1), .val (.int (0 : Int32)), .val (.int (20 : Int32))] [(.int (0 : Int32))])) (fun t k => XS.iloadN X63.here hx rfl (hb hby d2_48) rfl k) ?_
                                            refine Goes.retZ X63 hx (BodyLoose.notSynchronized Bd) Bd.returns (hb hby d2_49) rfl (by decide) (by decide) ?_
                                            show Q2 Z p1 na k h0 n0 _ T63.heap _
                                            rw [e63]
                                            exact ⟨(congrArg some (congrArg _ (by unfold fnns; rw [if_neg hc22]; rw [if_pos hc33]; rw [if_neg hc22_1]; rw [if_pos hc33_1]; rw [if_neg hc22_2]; rw [if_pos hc33_2]; rw [if_neg hc22_3]; rw [if_pos hc33_3]; rw [if_neg hc22_4]; rw [if_pos hc33_4]; rw [if_neg hc22_5]; rw [if_pos hc33_5]; rw [if_neg hc22_6]; rw [if_pos hc33_6]; rw [if_neg hc22_7]; rw [if_pos hc33_7]; rw [if_neg hc22_8]; rw [if_pos hc33_8]; rw [if_neg hc22_9]; rw [if_pos hc33_9]; rw [if_pos hc22_10]))), N0, rfl⟩
                                          · refine Goes.st (U' := T63.setTop (mkF m 25 #[.val (.int p1), .val (.int (0 : Int32)), .val (.int (20 : Int32))] [])) (fun t k => XS.icmpNo X63.here hx rfl (hb hby d2_22) rfl (flt hc22_10).1 k) ?_
                                            refine Goes.st (U' := T63.setTop (mkF m 26 #[.val (.int p1), .val (.int (0 : Int32)), .val (.int (20 : Int32))] [(.int p1)])) (fun t k => XS.iloadN X63.here hx rfl (hb hby d2_25) rfl k) ?_
                                            obtain ⟨T65, X65, e65, st65⟩ := getS2 X63 hx hZ hown (host := "") (Or.inl (hw _ (List.mem_of_getElem? (i := 8) rfl))) Via.refl e63 S_NAME_STARTS (g := (mkF m 26 #[.val (.int p1), .val (.int (0 : Int32)), .val (.int (20 : Int32))] [(.int p1)])) rfl (hb hby d2_26)
                                            refine Goes.st (U' := T65.setTop (mkF m 29 #[.val (.int p1), .val (.int (0 : Int32)), .val (.int (20 : Int32))] [(.ref na), (.int p1)])) (fun t k => st65 t k) ?_
                                            refine Goes.st (U' := T65.setTop (mkF m 30 #[.val (.int p1), .val (.int (0 : Int32)), .val (.int (20 : Int32))] [(.int (20 : Int32)), (.ref na), (.int p1)])) (fun t k => XS.iloadN X65.here hx rfl (hb hby d2_29) rfl k) ?_
                                            refine Goes.st (U' := T65.setTop (mkF m 31 #[.val (.int p1), .val (.int (0 : Int32)), .val (.int (20 : Int32))] [(.int (1 : Int32)), (.int (20 : Int32)), (.ref na), (.int p1)])) (fun t k => XS.iconst X65.here hx rfl (hb hby d2_30) k) ?_
                                            refine Goes.st (U' := T65.setTop (mkF m 32 #[.val (.int p1), .val (.int (0 : Int32)), .val (.int (20 : Int32))] [(.int (21 : Int32)), (.ref na), (.int p1)])) (fun t k => XS.iadd X65.here hx rfl (hb hby d2_31) rfl k) ?_
                                            have Vx66 := V_na
                                            obtain ⟨cl66, Ar66, qa66, S66, Nn66, H66, G66⟩ := Vx66
                                            have hin66 : ¬ ((21 : Int32) < 0 ∨ cl66.slots.size ≤ ((21 : Int32)).toNatClampNeg) := inb_of S66 ⟨by decide, by decide⟩
                                            have hat66 : cl66.slots[((21 : Int32)).toNatClampNeg]? = some (.int (55295 : Int32)) := H66.at hin66 rfl
                                            refine Goes.st (U' := T65.setTop (mkF m 33 #[.val (.int p1), .val (.int (0 : Int32)), .val (.int (20 : Int32))] [(.int (55295 : Int32)), (.int p1)])) (fun t k => X65.iaload hx (j := (21 : Int32)) (v := (.int (55295 : Int32))) (by rw [e65]; exact Ar66.1) (State.isArrayOf_alike hZ.alike Ar66.2.1) Ar66.2.2 hin66 hat66 (g := (mkF m 32 #[.val (.int p1), .val (.int (0 : Int32)), .val (.int (20 : Int32))] [(.int (21 : Int32)), (.ref na), (.int p1)])) rfl rfl (hb hby d2_32) t k) ?_
                                            rcases Decidable.em ((55295 : Int32) < p1) with hc33_10 | hc33_10
                                            · refine Goes.st (U' := T65.setTop (mkF m 40 #[.val (.int p1), .val (.int (0 : Int32)), .val (.int (20 : Int32))] [])) (fun t k => XS.icmpYes X65.here hx rfl (pc0 := 33) (pc' := 40) rfl (hb hby d2_33) rfl (tlt hc33_10).2.2.1 (by decide) (by decide) k) ?_
                                              refine Goes.st (U' := T65.setTop (mkF m 41 #[.val (.int p1), .val (.int (0 : Int32)), .val (.int (20 : Int32))] [(.int (0 : Int32))])) (fun t k => XS.iconst X65.here hx rfl (hb hby d2_40) k) ?_
                                              refine Goes.st (U' := T65.setTop (mkF m 42 #[.val (.int p1), .val (.int (0 : Int32)), .val (.int (20 : Int32))] [])) (fun t k => XS.istoreN X65.here hx rfl (hb hby d2_41) rfl (l' := #[.val (.int p1), .val (.int (0 : Int32)), .val (.int (20 : Int32))]) rfl k) ?_
                                              refine Goes.st (U' := T65.setTop (mkF m 45 #[.val (.int p1), .val (.int (0 : Int32)), .val (.int (22 : Int32))] [])) (fun t k => XS.iinc X65.here hx rfl (hb hby d2_42) rfl (l' := #[.val (.int p1), .val (.int (0 : Int32)), .val (.int (22 : Int32))]) rfl k) ?_
                                              refine Goes.st (U' := T65.setTop (mkF m 4 #[.val (.int p1), .val (.int (0 : Int32)), .val (.int (22 : Int32))] [])) (fun t k => XS.goto X65.here hx rfl (pc0 := 45) (pc' := 4) rfl (hb hby d2_45) (by decide) (by decide) k) ?_
                                              refine Goes.st (U' := T65.setTop (mkF m 5 #[.val (.int p1), .val (.int (0 : Int32)), .val (.int (22 : Int32))] [(.int (22 : Int32))])) (fun t k => XS.iloadN X65.here hx rfl (hb hby d2_4) rfl k) ?_
                                              obtain ⟨T67, X67, e67, st67⟩ := getS2 X65 hx hZ hown (host := "") (Or.inl (hw _ (List.mem_of_getElem? (i := 8) rfl))) Via.refl e65 S_NAME_STARTS (g := (mkF m 5 #[.val (.int p1), .val (.int (0 : Int32)), .val (.int (22 : Int32))] [(.int (22 : Int32))])) rfl (hb hby d2_5)
                                              refine Goes.st (U' := T67.setTop (mkF m 8 #[.val (.int p1), .val (.int (0 : Int32)), .val (.int (22 : Int32))] [(.ref na), (.int (22 : Int32))])) (fun t k => st67 t k) ?_
                                              have Vx68 := V_na
                                              obtain ⟨cl68, Ar68, -, S68, Nn68, -, -⟩ := Vx68
                                              refine Goes.st (U' := T67.setTop (mkF m 9 #[.val (.int p1), .val (.int (0 : Int32)), .val (.int (22 : Int32))] [(.int (28 : Int32)), (.int (22 : Int32))])) (fun t k => (X67.arraylength hx (by rw [e67]; exact Ar68.1) (State.isArrayOf_alike hZ.alike Ar68.2.1) (g := (mkF m 8 #[.val (.int p1), .val (.int (0 : Int32)), .val (.int (22 : Int32))] [(.ref na), (.int (22 : Int32))])) rfl rfl (hb hby d2_8) t (by rw [len_of S68 Nn68]; exact k))) ?_
                                              refine Goes.st (U' := T67.setTop (mkF m 12 #[.val (.int p1), .val (.int (0 : Int32)), .val (.int (22 : Int32))] [])) (fun t k => XS.icmpNo X67.here hx rfl (hb hby d2_9) rfl (tlt (by decide : (22 : Int32) < (28 : Int32))).2.1 k) ?_
                                              refine Goes.st (U' := T67.setTop (mkF m 13 #[.val (.int p1), .val (.int (0 : Int32)), .val (.int (22 : Int32))] [(.int (0 : Int32))])) (fun t k => XS.iloadN X67.here hx rfl (hb hby d2_12) rfl k) ?_
                                              refine Goes.st (U' := T67.setTop (mkF m 16 #[.val (.int p1), .val (.int (0 : Int32)), .val (.int (22 : Int32))] [])) (fun t k => XS.ifNo X67.here hx rfl (hb hby d2_13) rfl ((if0 _ _).trans (teq (rfl : (0 : Int32) = (0 : Int32))).2) k) ?_
                                              refine Goes.st (U' := T67.setTop (mkF m 17 #[.val (.int p1), .val (.int (0 : Int32)), .val (.int (22 : Int32))] [(.int p1)])) (fun t k => XS.iloadN X67.here hx rfl (hb hby d2_16) rfl k) ?_
                                              obtain ⟨T69, X69, e69, st69⟩ := getS2 X67 hx hZ hown (host := "") (Or.inl (hw _ (List.mem_of_getElem? (i := 8) rfl))) Via.refl e67 S_NAME_STARTS (g := (mkF m 17 #[.val (.int p1), .val (.int (0 : Int32)), .val (.int (22 : Int32))] [(.int p1)])) rfl (hb hby d2_17)
                                              refine Goes.st (U' := T69.setTop (mkF m 20 #[.val (.int p1), .val (.int (0 : Int32)), .val (.int (22 : Int32))] [(.ref na), (.int p1)])) (fun t k => st69 t k) ?_
                                              refine Goes.st (U' := T69.setTop (mkF m 21 #[.val (.int p1), .val (.int (0 : Int32)), .val (.int (22 : Int32))] [(.int (22 : Int32)), (.ref na), (.int p1)])) (fun t k => XS.iloadN X69.here hx rfl (hb hby d2_20) rfl k) ?_
                                              have Vx70 := V_na
                                              obtain ⟨cl70, Ar70, qa70, S70, Nn70, H70, G70⟩ := Vx70
                                              have hin70 : ¬ ((22 : Int32) < 0 ∨ cl70.slots.size ≤ ((22 : Int32)).toNatClampNeg) := inb_of S70 ⟨by decide, by decide⟩
                                              have hat70 : cl70.slots[((22 : Int32)).toNatClampNeg]? = some (.int (63744 : Int32)) := H70.at hin70 rfl
                                              refine Goes.st (U' := T69.setTop (mkF m 22 #[.val (.int p1), .val (.int (0 : Int32)), .val (.int (22 : Int32))] [(.int (63744 : Int32)), (.int p1)])) (fun t k => X69.iaload hx (j := (22 : Int32)) (v := (.int (63744 : Int32))) (by rw [e69]; exact Ar70.1) (State.isArrayOf_alike hZ.alike Ar70.2.1) Ar70.2.2 hin70 hat70 (g := (mkF m 21 #[.val (.int p1), .val (.int (0 : Int32)), .val (.int (22 : Int32))] [(.int (22 : Int32)), (.ref na), (.int p1)])) rfl rfl (hb hby d2_21) t k) ?_
                                              rcases Decidable.em (p1 < (63744 : Int32)) with hc22_11 | hc22_11
                                              · refine Goes.st (U' := T69.setTop (mkF m 48 #[.val (.int p1), .val (.int (0 : Int32)), .val (.int (22 : Int32))] [])) (fun t k => XS.icmpYes X69.here hx rfl (pc0 := 22) (pc' := 48) rfl (hb hby d2_22) rfl (tlt hc22_11).1 (by decide) (by decide) k) ?_
                                                refine Goes.st (U' := T69.setTop (mkF m 49 #[.val (.int p1), .val (.int (0 : Int32)), .val (.int (22 : Int32))] [(.int (0 : Int32))])) (fun t k => XS.iloadN X69.here hx rfl (hb hby d2_48) rfl k) ?_
                                                refine Goes.retZ X69 hx (BodyLoose.notSynchronized Bd) Bd.returns (hb hby d2_49) rfl (by decide) (by decide) ?_
                                                show Q2 Z p1 na k h0 n0 _ T69.heap _
                                                rw [e69]
                                                exact ⟨(congrArg some (congrArg _ (by unfold fnns; rw [if_neg hc22]; rw [if_pos hc33]; rw [if_neg hc22_1]; rw [if_pos hc33_1]; rw [if_neg hc22_2]; rw [if_pos hc33_2]; rw [if_neg hc22_3]; rw [if_pos hc33_3]; rw [if_neg hc22_4]; rw [if_pos hc33_4]; rw [if_neg hc22_5]; rw [if_pos hc33_5]; rw [if_neg hc22_6]; rw [if_pos hc33_6]; rw [if_neg hc22_7]; rw [if_pos hc33_7]; rw [if_neg hc22_8]; rw [if_pos hc33_8]; rw [if_neg hc22_9]; rw [if_pos hc33_9]; rw [if_neg hc22_10]; rw [if_pos hc33_10]; rw [if_pos hc22_11]))), N0, rfl⟩
                                              · refine Goes.st (U' := T69.setTop (mkF m 25 #[.val (.int p1), .val (.int (0 : Int32)), .val (.int (22 : Int32))] [])) (fun t k => XS.icmpNo X69.here hx rfl (hb hby d2_22) rfl (flt hc22_11).1 k) ?_
                                                refine Goes.st (U' := T69.setTop (mkF m 26 #[.val (.int p1), .val (.int (0 : Int32)), .val (.int (22 : Int32))] [(.int p1)])) (fun t k => XS.iloadN X69.here hx rfl (hb hby d2_25) rfl k) ?_
                                                obtain ⟨T71, X71, e71, st71⟩ := getS2 X69 hx hZ hown (host := "") (Or.inl (hw _ (List.mem_of_getElem? (i := 8) rfl))) Via.refl e69 S_NAME_STARTS (g := (mkF m 26 #[.val (.int p1), .val (.int (0 : Int32)), .val (.int (22 : Int32))] [(.int p1)])) rfl (hb hby d2_26)
                                                refine Goes.st (U' := T71.setTop (mkF m 29 #[.val (.int p1), .val (.int (0 : Int32)), .val (.int (22 : Int32))] [(.ref na), (.int p1)])) (fun t k => st71 t k) ?_
                                                refine Goes.st (U' := T71.setTop (mkF m 30 #[.val (.int p1), .val (.int (0 : Int32)), .val (.int (22 : Int32))] [(.int (22 : Int32)), (.ref na), (.int p1)])) (fun t k => XS.iloadN X71.here hx rfl (hb hby d2_29) rfl k) ?_
                                                refine Goes.st (U' := T71.setTop (mkF m 31 #[.val (.int p1), .val (.int (0 : Int32)), .val (.int (22 : Int32))] [(.int (1 : Int32)), (.int (22 : Int32)), (.ref na), (.int p1)])) (fun t k => XS.iconst X71.here hx rfl (hb hby d2_30) k) ?_
                                                refine Goes.st (U' := T71.setTop (mkF m 32 #[.val (.int p1), .val (.int (0 : Int32)), .val (.int (22 : Int32))] [(.int (23 : Int32)), (.ref na), (.int p1)])) (fun t k => XS.iadd X71.here hx rfl (hb hby d2_31) rfl k) ?_
                                                have Vx72 := V_na
                                                obtain ⟨cl72, Ar72, qa72, S72, Nn72, H72, G72⟩ := Vx72
                                                have hin72 : ¬ ((23 : Int32) < 0 ∨ cl72.slots.size ≤ ((23 : Int32)).toNatClampNeg) := inb_of S72 ⟨by decide, by decide⟩
                                                have hat72 : cl72.slots[((23 : Int32)).toNatClampNeg]? = some (.int (64975 : Int32)) := H72.at hin72 rfl
                                                refine Goes.st (U' := T71.setTop (mkF m 33 #[.val (.int p1), .val (.int (0 : Int32)), .val (.int (22 : Int32))] [(.int (64975 : Int32)), (.int p1)])) (fun t k => X71.iaload hx (j := (23 : Int32)) (v := (.int (64975 : Int32))) (by rw [e71]; exact Ar72.1) (State.isArrayOf_alike hZ.alike Ar72.2.1) Ar72.2.2 hin72 hat72 (g := (mkF m 32 #[.val (.int p1), .val (.int (0 : Int32)), .val (.int (22 : Int32))] [(.int (23 : Int32)), (.ref na), (.int p1)])) rfl rfl (hb hby d2_32) t k) ?_
                                                rcases Decidable.em ((64975 : Int32) < p1) with hc33_11 | hc33_11
                                                · refine Goes.st (U' := T71.setTop (mkF m 40 #[.val (.int p1), .val (.int (0 : Int32)), .val (.int (22 : Int32))] [])) (fun t k => XS.icmpYes X71.here hx rfl (pc0 := 33) (pc' := 40) rfl (hb hby d2_33) rfl (tlt hc33_11).2.2.1 (by decide) (by decide) k) ?_
                                                  refine Goes.st (U' := T71.setTop (mkF m 41 #[.val (.int p1), .val (.int (0 : Int32)), .val (.int (22 : Int32))] [(.int (0 : Int32))])) (fun t k => XS.iconst X71.here hx rfl (hb hby d2_40) k) ?_
                                                  refine Goes.st (U' := T71.setTop (mkF m 42 #[.val (.int p1), .val (.int (0 : Int32)), .val (.int (22 : Int32))] [])) (fun t k => XS.istoreN X71.here hx rfl (hb hby d2_41) rfl (l' := #[.val (.int p1), .val (.int (0 : Int32)), .val (.int (22 : Int32))]) rfl k) ?_
                                                  refine Goes.st (U' := T71.setTop (mkF m 45 #[.val (.int p1), .val (.int (0 : Int32)), .val (.int (24 : Int32))] [])) (fun t k => XS.iinc X71.here hx rfl (hb hby d2_42) rfl (l' := #[.val (.int p1), .val (.int (0 : Int32)), .val (.int (24 : Int32))]) rfl k) ?_
                                                  refine Goes.st (U' := T71.setTop (mkF m 4 #[.val (.int p1), .val (.int (0 : Int32)), .val (.int (24 : Int32))] [])) (fun t k => XS.goto X71.here hx rfl (pc0 := 45) (pc' := 4) rfl (hb hby d2_45) (by decide) (by decide) k) ?_
                                                  refine Goes.st (U' := T71.setTop (mkF m 5 #[.val (.int p1), .val (.int (0 : Int32)), .val (.int (24 : Int32))] [(.int (24 : Int32))])) (fun t k => XS.iloadN X71.here hx rfl (hb hby d2_4) rfl k) ?_
                                                  obtain ⟨T73, X73, e73, st73⟩ := getS2 X71 hx hZ hown (host := "") (Or.inl (hw _ (List.mem_of_getElem? (i := 8) rfl))) Via.refl e71 S_NAME_STARTS (g := (mkF m 5 #[.val (.int p1), .val (.int (0 : Int32)), .val (.int (24 : Int32))] [(.int (24 : Int32))])) rfl (hb hby d2_5)
                                                  refine Goes.st (U' := T73.setTop (mkF m 8 #[.val (.int p1), .val (.int (0 : Int32)), .val (.int (24 : Int32))] [(.ref na), (.int (24 : Int32))])) (fun t k => st73 t k) ?_
                                                  have Vx74 := V_na
                                                  obtain ⟨cl74, Ar74, -, S74, Nn74, -, -⟩ := Vx74
                                                  refine Goes.st (U' := T73.setTop (mkF m 9 #[.val (.int p1), .val (.int (0 : Int32)), .val (.int (24 : Int32))] [(.int (28 : Int32)), (.int (24 : Int32))])) (fun t k => (X73.arraylength hx (by rw [e73]; exact Ar74.1) (State.isArrayOf_alike hZ.alike Ar74.2.1) (g := (mkF m 8 #[.val (.int p1), .val (.int (0 : Int32)), .val (.int (24 : Int32))] [(.ref na), (.int (24 : Int32))])) rfl rfl (hb hby d2_8) t (by rw [len_of S74 Nn74]; exact k))) ?_
                                                  refine Goes.st (U' := T73.setTop (mkF m 12 #[.val (.int p1), .val (.int (0 : Int32)), .val (.int (24 : Int32))] [])) (fun t k => XS.icmpNo X73.here hx rfl (hb hby d2_9) rfl (tlt (by decide : (24 : Int32) < (28 : Int32))).2.1 k) ?_
                                                  refine Goes.st (U' := T73.setTop (mkF m 13 #[.val (.int p1), .val (.int (0 : Int32)), .val (.int (24 : Int32))] [(.int (0 : Int32))])) (fun t k => XS.iloadN X73.here hx rfl (hb hby d2_12) rfl k) ?_
                                                  refine Goes.st (U' := T73.setTop (mkF m 16 #[.val (.int p1), .val (.int (0 : Int32)), .val (.int (24 : Int32))] [])) (fun t k => XS.ifNo X73.here hx rfl (hb hby d2_13) rfl ((if0 _ _).trans (teq (rfl : (0 : Int32) = (0 : Int32))).2) k) ?_
                                                  refine Goes.st (U' := T73.setTop (mkF m 17 #[.val (.int p1), .val (.int (0 : Int32)), .val (.int (24 : Int32))] [(.int p1)])) (fun t k => XS.iloadN X73.here hx rfl (hb hby d2_16) rfl k) ?_
                                                  obtain ⟨T75, X75, e75, st75⟩ := getS2 X73 hx hZ hown (host := "") (Or.inl (hw _ (List.mem_of_getElem? (i := 8) rfl))) Via.refl e73 S_NAME_STARTS (g := (mkF m 17 #[.val (.int p1), .val (.int (0 : Int32)), .val (.int (24 : Int32))] [(.int p1)])) rfl (hb hby d2_17)
                                                  refine Goes.st (U' := T75.setTop (mkF m 20 #[.val (.int p1), .val (.int (0 : Int32)), .val (.int (24 : Int32))] [(.ref na), (.int p1)])) (fun t k => st75 t k) ?_
                                                  refine Goes.st (U' := T75.setTop (mkF m 21 #[.val (.int p1), .val (.int (0 : Int32)), .val (.int (24 : Int32))] [(.int (24 : Int32)), (.ref na), (.int p1)])) (fun t k => XS.iloadN X75.here hx rfl (hb hby d2_20) rfl k) ?_
                                                  have Vx76 := V_na
                                                  obtain ⟨cl76, Ar76, qa76, S76, Nn76, H76, G76⟩ := Vx76
                                                  have hin76 : ¬ ((24 : Int32) < 0 ∨ cl76.slots.size ≤ ((24 : Int32)).toNatClampNeg) := inb_of S76 ⟨by decide, by decide⟩
                                                  have hat76 : cl76.slots[((24 : Int32)).toNatClampNeg]? = some (.int (65008 : Int32)) := H76.at hin76 rfl
                                                  refine Goes.st (U' := T75.setTop (mkF m 22 #[.val (.int p1), .val (.int (0 : Int32)), .val (.int (24 : Int32))] [(.int (65008 : Int32)), (.int p1)])) (fun t k => X75.iaload hx (j := (24 : Int32)) (v := (.int (65008 : Int32))) (by rw [e75]; exact Ar76.1) (State.isArrayOf_alike hZ.alike Ar76.2.1) Ar76.2.2 hin76 hat76 (g := (mkF m 21 #[.val (.int p1), .val (.int (0 : Int32)), .val (.int (24 : Int32))] [(.int (24 : Int32)), (.ref na), (.int p1)])) rfl rfl (hb hby d2_21) t k) ?_
                                                  rcases Decidable.em (p1 < (65008 : Int32)) with hc22_12 | hc22_12
                                                  · refine Goes.st (U' := T75.setTop (mkF m 48 #[.val (.int p1), .val (.int (0 : Int32)), .val (.int (24 : Int32))] [])) (fun t k => XS.icmpYes X75.here hx rfl (pc0 := 22) (pc' := 48) rfl (hb hby d2_22) rfl (tlt hc22_12).1 (by decide) (by decide) k) ?_
                                                    refine Goes.st (U' := T75.setTop (mkF m 49 #[.val (.int p1), .val (.int (0 : Int32)), .val (.int (24 : Int32))] [(.int (0 : Int32))])) (fun t k => XS.iloadN X75.here hx rfl (hb hby d2_48) rfl k) ?_
                                                    refine Goes.retZ X75 hx (BodyLoose.notSynchronized Bd) Bd.returns (hb hby d2_49) rfl (by decide) (by decide) ?_
                                                    show Q2 Z p1 na k h0 n0 _ T75.heap _
                                                    rw [e75]
                                                    exact ⟨(congrArg some (congrArg _ (by unfold fnns; rw [if_neg hc22]; rw [if_pos hc33]; rw [if_neg hc22_1]; rw [if_pos hc33_1]; rw [if_neg hc22_2]; rw [if_pos hc33_2]; rw [if_neg hc22_3]; rw [if_pos hc33_3]; rw [if_neg hc22_4]; rw [if_pos hc33_4]; rw [if_neg hc22_5]; rw [if_pos hc33_5]; rw [if_neg hc22_6]; rw [if_pos hc33_6]; rw [if_neg hc22_7]; rw [if_pos hc33_7]; rw [if_neg hc22_8]; rw [if_pos hc33_8]; rw [if_neg hc22_9]; rw [if_pos hc33_9]; rw [if_neg hc22_10]; rw [if_pos hc33_10]; rw [if_neg hc22_11]; rw [if_pos hc33_11]; rw [if_pos hc22_12]))), N0, rfl⟩
                                                  · refine Goes.st (U' := T75.setTop (mkF m 25 #[.val (.int p1), .val (.int (0 : Int32)), .val (.int (24 : Int32))] [])) (fun t k => XS.icmpNo X75.here hx rfl (hb hby d2_22) rfl (flt hc22_12).1 k) ?_
                                                    refine Goes.st (U' := T75.setTop (mkF m 26 #[.val (.int p1), .val (.int (0 : Int32)), .val (.int (24 : Int32))] [(.int p1)])) (fun t k => XS.iloadN X75.here hx rfl (hb hby d2_25) rfl k) ?_
                                                    obtain ⟨T77, X77, e77, st77⟩ := getS2 X75 hx hZ hown (host := "") (Or.inl (hw _ (List.mem_of_getElem? (i := 8) rfl))) Via.refl e75 S_NAME_STARTS (g := (mkF m 26 #[.val (.int p1), .val (.int (0 : Int32)), .val (.int (24 : Int32))] [(.int p1)])) rfl (hb hby d2_26)
                                                    refine Goes.st (U' := T77.setTop (mkF m 29 #[.val (.int p1), .val (.int (0 : Int32)), .val (.int (24 : Int32))] [(.ref na), (.int p1)])) (fun t k => st77 t k) ?_
                                                    refine Goes.st (U' := T77.setTop (mkF m 30 #[.val (.int p1), .val (.int (0 : Int32)), .val (.int (24 : Int32))] [(.int (24 : Int32)), (.ref na), (.int p1)])) (fun t k => XS.iloadN X77.here hx rfl (hb hby d2_29) rfl k) ?_
                                                    refine Goes.st (U' := T77.setTop (mkF m 31 #[.val (.int p1), .val (.int (0 : Int32)), .val (.int (24 : Int32))] [(.int (1 : Int32)), (.int (24 : Int32)), (.ref na), (.int p1)])) (fun t k => XS.iconst X77.here hx rfl (hb hby d2_30) k) ?_
                                                    refine Goes.st (U' := T77.setTop (mkF m 32 #[.val (.int p1), .val (.int (0 : Int32)), .val (.int (24 : Int32))] [(.int (25 : Int32)), (.ref na), (.int p1)])) (fun t k => XS.iadd X77.here hx rfl (hb hby d2_31) rfl k) ?_
                                                    have Vx78 := V_na
                                                    obtain ⟨cl78, Ar78, qa78, S78, Nn78, H78, G78⟩ := Vx78
                                                    have hin78 : ¬ ((25 : Int32) < 0 ∨ cl78.slots.size ≤ ((25 : Int32)).toNatClampNeg) := inb_of S78 ⟨by decide, by decide⟩
                                                    have hat78 : cl78.slots[((25 : Int32)).toNatClampNeg]? = some (.int (65533 : Int32)) := H78.at hin78 rfl
                                                    refine Goes.st (U' := T77.setTop (mkF m 33 #[.val (.int p1), .val (.int (0 : Int32)), .val (.int (24 : Int32))] [(.int (65533 : Int32)), (.int p1)])) (fun t k => X77.iaload hx (j := (25 : Int32)) (v := (.int (65533 : Int32))) (by rw [e77]; exact Ar78.1) (State.isArrayOf_alike hZ.alike Ar78.2.1) Ar78.2.2 hin78 hat78 (g := (mkF m 32 #[.val (.int p1), .val (.int (0 : Int32)), .val (.int (24 : Int32))] [(.int (25 : Int32)), (.ref na), (.int p1)])) rfl rfl (hb hby d2_32) t k) ?_
                                                    rcases Decidable.em ((65533 : Int32) < p1) with hc33_12 | hc33_12
                                                    · refine Goes.st (U' := T77.setTop (mkF m 40 #[.val (.int p1), .val (.int (0 : Int32)), .val (.int (24 : Int32))] [])) (fun t k => XS.icmpYes X77.here hx rfl (pc0 := 33) (pc' := 40) rfl (hb hby d2_33) rfl (tlt hc33_12).2.2.1 (by decide) (by decide) k) ?_
                                                      refine Goes.st (U' := T77.setTop (mkF m 41 #[.val (.int p1), .val (.int (0 : Int32)), .val (.int (24 : Int32))] [(.int (0 : Int32))])) (fun t k => XS.iconst X77.here hx rfl (hb hby d2_40) k) ?_
                                                      refine Goes.st (U' := T77.setTop (mkF m 42 #[.val (.int p1), .val (.int (0 : Int32)), .val (.int (24 : Int32))] [])) (fun t k => XS.istoreN X77.here hx rfl (hb hby d2_41) rfl (l' := #[.val (.int p1), .val (.int (0 : Int32)), .val (.int (24 : Int32))]) rfl k) ?_
                                                      refine Goes.st (U' := T77.setTop (mkF m 45 #[.val (.int p1), .val (.int (0 : Int32)), .val (.int (26 : Int32))] [])) (fun t k => XS.iinc X77.here hx rfl (hb hby d2_42) rfl (l' := #[.val (.int p1), .val (.int (0 : Int32)), .val (.int (26 : Int32))]) rfl k) ?_
                                                      refine Goes.st (U' := T77.setTop (mkF m 4 #[.val (.int p1), .val (.int (0 : Int32)), .val (.int (26 : Int32))] [])) (fun t k => XS.goto X77.here hx rfl (pc0 := 45) (pc' := 4) rfl (hb hby d2_45) (by decide) (by decide) k) ?_
                                                      refine Goes.st (U' := T77.setTop (mkF m 5 #[.val (.int p1), .val (.int (0 : Int32)), .val (.int (26 : Int32))] [(.int (26 : Int32))])) (fun t k => XS.iloadN X77.here hx rfl (hb hby d2_4) rfl k) ?_
                                                      obtain ⟨T79, X79, e79, st79⟩ := getS2 X77 hx hZ hown (host := "") (Or.inl (hw _ (List.mem_of_getElem? (i := 8) rfl))) Via.refl e77 S_NAME_STARTS (g := (mkF m 5 #[.val (.int p1), .val (.int (0 : Int32)), .val (.int (26 : Int32))] [(.int (26 : Int32))])) rfl (hb hby d2_5)
                                                      refine Goes.st (U' := T79.setTop (mkF m 8 #[.val (.int p1), .val (.int (0 : Int32)), .val (.int (26 : Int32))] [(.ref na), (.int (26 : Int32))])) (fun t k => st79 t k) ?_
                                                      have Vx80 := V_na
                                                      obtain ⟨cl80, Ar80, -, S80, Nn80, -, -⟩ := Vx80
                                                      refine Goes.st (U' := T79.setTop (mkF m 9 #[.val (.int p1), .val (.int (0 : Int32)), .val (.int (26 : Int32))] [(.int (28 : Int32)), (.int (26 : Int32))])) (fun t k => (X79.arraylength hx (by rw [e79]; exact Ar80.1) (State.isArrayOf_alike hZ.alike Ar80.2.1) (g := (mkF m 8 #[.val (.int p1), .val (.int (0 : Int32)), .val (.int (26 : Int32))] [(.ref na), (.int (26 : Int32))])) rfl rfl (hb hby d2_8) t (by rw [len_of S80 Nn80]; exact k))) ?_
                                                      refine Goes.st (U' := T79.setTop (mkF m 12 #[.val (.int p1), .val (.int (0 : Int32)), .val (.int (26 : Int32))] [])) (fun t k => XS.icmpNo X79.here hx rfl (hb hby d2_9) rfl (tlt (by decide : (26 : Int32) < (28 : Int32))).2.1 k) ?_
                                                      refine Goes.st (U' := T79.setTop (mkF m 13 #[.val (.int p1), .val (.int (0 : Int32)), .val (.int (26 : Int32))] [(.int (0 : Int32))])) (fun t k => XS.iloadN X79.here hx rfl (hb hby d2_12) rfl k) ?_
                                                      refine Goes.st (U' := T79.setTop (mkF m 16 #[.val (.int p1), .val (.int (0 : Int32)), .val (.int (26 : Int32))] [])) (fun t k => XS.ifNo X79.here hx rfl (hb hby d2_13) rfl ((if0 _ _).trans (teq (rfl : (0 : Int32) = (0 : Int32))).2) k) ?_
                                                      refine Goes.st (U' := T79.setTop (mkF m 17 #[.val (.int p1), .val (.int (0 : Int32)), .val (.int (26 : Int32))] [(.int p1)])) (fun t k => XS.iloadN X79.here hx rfl (hb hby d2_16) rfl k) ?_
                                                      obtain ⟨T81, X81, e81, st81⟩ := getS2 X79 hx hZ hown (host := "") (Or.inl (hw _ (List.mem_of_getElem? (i := 8) rfl))) Via.refl e79 S_NAME_STARTS (g := (mkF m 17 #[.val (.int p1), .val (.int (0 : Int32)), .val (.int (26 : Int32))] [(.int p1)])) rfl (hb hby d2_17)
                                                      refine Goes.st (U' := T81.setTop (mkF m 20 #[.val (.int p1), .val (.int (0 : Int32)), .val (.int (26 : Int32))] [(.ref na), (.int p1)])) (fun t k => st81 t k) ?_
                                                      refine Goes.st (U' := T81.setTop (mkF m 21 #[.val (.int p1), .val (.int (0 : Int32)), .val (.int (26 : Int32))] [(.int (26 : Int32)), (.ref na), (.int p1)])) (fun t k => XS.iloadN X81.here hx rfl (hb hby d2_20) rfl k) ?_
                                                      have Vx82 := V_na
                                                      obtain ⟨cl82, Ar82, qa82, S82, Nn82, H82, G82⟩ := Vx82
                                                      have hin82 : ¬ ((26 : Int32) < 0 ∨ cl82.slots.size ≤ ((26 : Int32)).toNatClampNeg) := inb_of S82 ⟨by decide, by decide⟩
                                                      have hat82 : cl82.slots[((26 : Int32)).toNatClampNeg]? = some (.int (65536 : Int32)) := H82.at hin82 rfl
                                                      refine Goes.st (U' := T81.setTop (mkF m 22 #[.val (.int p1), .val (.int (0 : Int32)), .val (.int (26 : Int32))] [(.int (65536 : Int32)), (.int p1)])) (fun t k => X81.iaload hx (j := (26 : Int32)) (v := (.int (65536 : Int32))) (by rw [e81]; exact Ar82.1) (State.isArrayOf_alike hZ.alike Ar82.2.1) Ar82.2.2 hin82 hat82 (g := (mkF m 21 #[.val (.int p1), .val (.int (0 : Int32)), .val (.int (26 : Int32))] [(.int (26 : Int32)), (.ref na), (.int p1)])) rfl rfl (hb hby d2_21) t k) ?_
                                                      rcases Decidable.em (p1 < (65536 : Int32)) with hc22_13 | hc22_13
                                                      · refine Goes.st (U' := T81.setTop (mkF m 48 #[.val (.int p1), .val (.int (0 : Int32)), .val (.int (26 : Int32))] [])) (fun t k => XS.icmpYes X81.here hx rfl (pc0 := 22) (pc' := 48) rfl (hb hby d2_22) rfl (tlt hc22_13).1 (by decide) (by decide) k) ?_
                                                        refine Goes.st (U' := T81.setTop (mkF m 49 #[.val (.int p1), .val (.int (0 : Int32)), .val (.int (26 : Int32))] [(.int (0 : Int32))])) (fun t k => XS.iloadN X81.here hx rfl (hb hby d2_48) rfl k) ?_
                                                        refine Goes.retZ X81 hx (BodyLoose.notSynchronized Bd) Bd.returns (hb hby d2_49) rfl (by decide) (by decide) ?_
                                                        show Q2 Z p1 na k h0 n0 _ T81.heap _
                                                        rw [e81]
                                                        exact ⟨(congrArg some (congrArg _ (by unfold fnns; rw [if_neg hc22]; rw [if_pos hc33]; rw [if_neg hc22_1]; rw [if_pos hc33_1]; rw [if_neg hc22_2]; rw [if_pos hc33_2]; rw [if_neg hc22_3]; rw [if_pos hc33_3]; rw [if_neg hc22_4]; rw [if_pos hc33_4]; rw [if_neg hc22_5]; rw [if_pos hc33_5]; rw [if_neg hc22_6]; rw [if_pos hc33_6]; rw [if_neg hc22_7]; rw [if_pos hc33_7]; rw [if_neg hc22_8]; rw [if_pos hc33_8]; rw [if_neg hc22_9]; rw [if_pos hc33_9]; rw [if_neg hc22_10]; rw [if_pos hc33_10]; rw [if_neg hc22_11]; rw [if_pos hc33_11]; rw [if_neg hc22_12]; rw [if_pos hc33_12]; rw [if_pos hc22_13]))), N0, rfl⟩
                                                      · refine Goes.st (U' := T81.setTop (mkF m 25 #[.val (.int p1), .val (.int (0 : Int32)), .val (.int (26 : Int32))] [])) (fun t k => XS.icmpNo X81.here hx rfl (hb hby d2_22) rfl (flt hc22_13).1 k) ?_
                                                        refine Goes.st (U' := T81.setTop (mkF m 26 #[.val (.int p1), .val (.int (0 : Int32)), .val (.int (26 : Int32))] [(.int p1)])) (fun t k => XS.iloadN X81.here hx rfl (hb hby d2_25) rfl k) ?_
                                                        obtain ⟨T83, X83, e83, st83⟩ := getS2 X81 hx hZ hown (host := "") (Or.inl (hw _ (List.mem_of_getElem? (i := 8) rfl))) Via.refl e81 S_NAME_STARTS (g := (mkF m 26 #[.val (.int p1), .val (.int (0 : Int32)), .val (.int (26 : Int32))] [(.int p1)])) rfl (hb hby d2_26)
                                                        refine Goes.st (U' := T83.setTop (mkF m 29 #[.val (.int p1), .val (.int (0 : Int32)), .val (.int (26 : Int32))] [(.ref na), (.int p1)])) (fun t k => st83 t k) ?_
                                                        refine Goes.st (U' := T83.setTop (mkF m 30 #[.val (.int p1), .val (.int (0 : Int32)), .val (.int (26 : Int32))] [(.int (26 : Int32)), (.ref na), (.int p1)])) (fun t k => XS.iloadN X83.here hx rfl (hb hby d2_29) rfl k) ?_
                                                        refine Goes.st (U' := T83.setTop (mkF m 31 #[.val (.int p1), .val (.int (0 : Int32)), .val (.int (26 : Int32))] [(.int (1 : Int32)), (.int (26 : Int32)), (.ref na), (.int p1)])) (fun t k => XS.iconst X83.here hx rfl (hb hby d2_30) k) ?_
                                                        refine Goes.st (U' := T83.setTop (mkF m 32 #[.val (.int p1), .val (.int (0 : Int32)), .val (.int (26 : Int32))] [(.int (27 : Int32)), (.ref na), (.int p1)])) (fun t k => XS.iadd X83.here hx rfl (hb hby d2_31) rfl k) ?_
                                                        have Vx84 := V_na
                                                        obtain ⟨cl84, Ar84, qa84, S84, Nn84, H84, G84⟩ := Vx84
                                                        have hin84 : ¬ ((27 : Int32) < 0 ∨ cl84.slots.size ≤ ((27 : Int32)).toNatClampNeg) := inb_of S84 ⟨by decide, by decide⟩
                                                        have hat84 : cl84.slots[((27 : Int32)).toNatClampNeg]? = some (.int (983039 : Int32)) := H84.at hin84 rfl
                                                        refine Goes.st (U' := T83.setTop (mkF m 33 #[.val (.int p1), .val (.int (0 : Int32)), .val (.int (26 : Int32))] [(.int (983039 : Int32)), (.int p1)])) (fun t k => X83.iaload hx (j := (27 : Int32)) (v := (.int (983039 : Int32))) (by rw [e83]; exact Ar84.1) (State.isArrayOf_alike hZ.alike Ar84.2.1) Ar84.2.2 hin84 hat84 (g := (mkF m 32 #[.val (.int p1), .val (.int (0 : Int32)), .val (.int (26 : Int32))] [(.int (27 : Int32)), (.ref na), (.int p1)])) rfl rfl (hb hby d2_32) t k) ?_
                                                        rcases Decidable.em ((983039 : Int32) < p1) with hc33_13 | hc33_13
                                                        · refine Goes.st (U' := T83.setTop (mkF m 40 #[.val (.int p1), .val (.int (0 : Int32)), .val (.int (26 : Int32))] [])) (fun t k => XS.icmpYes X83.here hx rfl (pc0 := 33) (pc' := 40) rfl (hb hby d2_33) rfl (tlt hc33_13).2.2.1 (by decide) (by decide) k) ?_
                                                          refine Goes.st (U' := T83.setTop (mkF m 41 #[.val (.int p1), .val (.int (0 : Int32)), .val (.int (26 : Int32))] [(.int (0 : Int32))])) (fun t k => XS.iconst X83.here hx rfl (hb hby d2_40) k) ?_
                                                          refine Goes.st (U' := T83.setTop (mkF m 42 #[.val (.int p1), .val (.int (0 : Int32)), .val (.int (26 : Int32))] [])) (fun t k => XS.istoreN X83.here hx rfl (hb hby d2_41) rfl (l' := #[.val (.int p1), .val (.int (0 : Int32)), .val (.int (26 : Int32))]) rfl k) ?_
                                                          refine Goes.st (U' := T83.setTop (mkF m 45 #[.val (.int p1), .val (.int (0 : Int32)), .val (.int (28 : Int32))] [])) (fun t k => XS.iinc X83.here hx rfl (hb hby d2_42) rfl (l' := #[.val (.int p1), .val (.int (0 : Int32)), .val (.int (28 : Int32))]) rfl k) ?_
                                                          refine Goes.st (U' := T83.setTop (mkF m 4 #[.val (.int p1), .val (.int (0 : Int32)), .val (.int (28 : Int32))] [])) (fun t k => XS.goto X83.here hx rfl (pc0 := 45) (pc' := 4) rfl (hb hby d2_45) (by decide) (by decide) k) ?_
                                                          refine Goes.st (U' := T83.setTop (mkF m 5 #[.val (.int p1), .val (.int (0 : Int32)), .val (.int (28 : Int32))] [(.int (28 : Int32))])) (fun t k => XS.iloadN X83.here hx rfl (hb hby d2_4) rfl k) ?_
                                                          obtain ⟨T85, X85, e85, st85⟩ := getS2 X83 hx hZ hown (host := "") (Or.inl (hw _ (List.mem_of_getElem? (i := 8) rfl))) Via.refl e83 S_NAME_STARTS (g := (mkF m 5 #[.val (.int p1), .val (.int (0 : Int32)), .val (.int (28 : Int32))] [(.int (28 : Int32))])) rfl (hb hby d2_5)
                                                          refine Goes.st (U' := T85.setTop (mkF m 8 #[.val (.int p1), .val (.int (0 : Int32)), .val (.int (28 : Int32))] [(.ref na), (.int (28 : Int32))])) (fun t k => st85 t k) ?_
                                                          have Vx86 := V_na
                                                          obtain ⟨cl86, Ar86, -, S86, Nn86, -, -⟩ := Vx86
                                                          refine Goes.st (U' := T85.setTop (mkF m 9 #[.val (.int p1), .val (.int (0 : Int32)), .val (.int (28 : Int32))] [(.int (28 : Int32)), (.int (28 : Int32))])) (fun t k => (X85.arraylength hx (by rw [e85]; exact Ar86.1) (State.isArrayOf_alike hZ.alike Ar86.2.1) (g := (mkF m 8 #[.val (.int p1), .val (.int (0 : Int32)), .val (.int (28 : Int32))] [(.ref na), (.int (28 : Int32))])) rfl rfl (hb hby d2_8) t (by rw [len_of S86 Nn86]; exact k))) ?_
                                                          refine Goes.st (U' := T85.setTop (mkF m 48 #[.val (.int p1), .val (.int (0 : Int32)), .val (.int (28 : Int32))] [])) (fun t k => XS.icmpYes X85.here hx rfl (pc0 := 9) (pc' := 48) rfl (hb hby d2_9) rfl (flt (by decide : ¬ ((28 : Int32) < (28 : Int32)))).2.1 (by decide) (by decide) k) ?_
                                                          refine Goes.st (U' := T85.setTop (mkF m 49 #[.val (.int p1), .val (.int (0 : Int32)), .val (.int (28 : Int32))] [(.int (0 : Int32))])) (fun t k => XS.iloadN X85.here hx rfl (hb hby d2_48) rfl k) ?_
                                                          refine Goes.retZ X85 hx (BodyLoose.notSynchronized Bd) Bd.returns (hb hby d2_49) rfl (by decide) (by decide) ?_
                                                          show Q2 Z p1 na k h0 n0 _ T85.heap _
                                                          rw [e85]
                                                          exact ⟨(congrArg some (congrArg _ (by unfold fnns; rw [if_neg hc22]; rw [if_pos hc33]; rw [if_neg hc22_1]; rw [if_pos hc33_1]; rw [if_neg hc22_2]; rw [if_pos hc33_2]; rw [if_neg hc22_3]; rw [if_pos hc33_3]; rw [if_neg hc22_4]; rw [if_pos hc33_4]; rw [if_neg hc22_5]; rw [if_pos hc33_5]; rw [if_neg hc22_6]; rw [if_pos hc33_6]; rw [if_neg hc22_7]; rw [if_pos hc33_7]; rw [if_neg hc22_8]; rw [if_pos hc33_8]; rw [if_neg hc22_9]; rw [if_pos hc33_9]; rw [if_neg hc22_10]; rw [if_pos hc33_10]; rw [if_neg hc22_11]; rw [if_pos hc33_11]; rw [if_neg hc22_12]; rw [if_pos hc33_12]; rw [if_neg hc22_13]; rw [if_pos hc33_13]))), N0, rfl⟩
                                                        · refine Goes.st (U' := T83.setTop (mkF m 36 #[.val (.int p1), .val (.int (0 : Int32)), .val (.int (26 : Int32))] [])) (fun t k => XS.icmpNo X83.here hx rfl (hb hby d2_33) rfl (flt hc33_13).2.2.1 k) ?_
                                                          refine Goes.st (U' := T83.setTop (mkF m 37 #[.val (.int p1), .val (.int (0 : Int32)), .val (.int (26 : Int32))] [(.int (1 : Int32))])) (fun t k => XS.iconst X83.here hx rfl (hb hby d2_36) k) ?_
                                                          refine Goes.st (U' := T83.setTop (mkF m 41 #[.val (.int p1), .val (.int (0 : Int32)), .val (.int (26 : Int32))] [(.int (1 : Int32))])) (fun t k => XS.goto X83.here hx rfl (pc0 := 37) (pc' := 41) rfl (hb hby d2_37) (by decide) (by decide) k) ?_
                                                          refine Goes.st (U' := T83.setTop (mkF m 42 #[.val (.int p1), .val (.int (1 : Int32)), .val (.int (26 : Int32))] [])) (fun t k => XS.istoreN X83.here hx rfl (hb hby d2_41) rfl (l' := #[.val (.int p1), .val (.int (1 : Int32)), .val (.int (26 : Int32))]) rfl k) ?_
                                                          refine Goes.st (U' := T83.setTop (mkF m 45 #[.val (.int p1), .val (.int (1 : Int32)), .val (.int (28 : Int32))] [])) (fun t k => XS.iinc X83.here hx rfl (hb hby d2_42) rfl (l' := #[.val (.int p1), .val (.int (1 : Int32)), .val (.int (28 : Int32))]) rfl k) ?_
                                                          refine Goes.st (U' := T83.setTop (mkF m 4 #[.val (.int p1), .val (.int (1 : Int32)), .val (.int (28 : Int32))] [])) (fun t k => XS.goto X83.here hx rfl (pc0 := 45) (pc' := 4) rfl (hb hby d2_45) (by decide) (by decide) k) ?_
                                                          refine Goes.st (U' := T83.setTop (mkF m 5 #[.val (.int p1), .val (.int (1 : Int32)), .val (.int (28 : Int32))] [(.int (28 : Int32))])) (fun t k => XS.iloadN X83.here hx rfl (hb hby d2_4) rfl k) ?_
                                                          obtain ⟨T87, X87, e87, st87⟩ := getS2 X83 hx hZ hown (host := "") (Or.inl (hw _ (List.mem_of_getElem? (i := 8) rfl))) Via.refl e83 S_NAME_STARTS (g := (mkF m 5 #[.val (.int p1), .val (.int (1 : Int32)), .val (.int (28 : Int32))] [(.int (28 : Int32))])) rfl (hb hby d2_5)
                                                          refine Goes.st (U' := T87.setTop (mkF m 8 #[.val (.int p1), .val (.int (1 : Int32)), .val (.int (28 : Int32))] [(.ref na), (.int (28 : Int32))])) (fun t k => st87 t k) ?_
                                                          have Vx88 := V_na
                                                          obtain ⟨cl88, Ar88, -, S88, Nn88, -, -⟩ := Vx88
                                                          refine Goes.st (U' := T87.setTop (mkF m 9 #[.val (.int p1), .val (.int (1 : Int32)), .val (.int (28 : Int32))] [(.int (28 : Int32)), (.int (28 : Int32))])) (fun t k => (X87.arraylength hx (by rw [e87]; exact Ar88.1) (State.isArrayOf_alike hZ.alike Ar88.2.1) (g := (mkF m 8 #[.val (.int p1), .val (.int (1 : Int32)), .val (.int (28 : Int32))] [(.ref na), (.int (28 : Int32))])) rfl rfl (hb hby d2_8) t (by rw [len_of S88 Nn88]; exact k))) ?_
                                                          refine Goes.st (U' := T87.setTop (mkF m 48 #[.val (.int p1), .val (.int (1 : Int32)), .val (.int (28 : Int32))] [])) (fun t k => XS.icmpYes X87.here hx rfl (pc0 := 9) (pc' := 48) rfl (hb hby d2_9) rfl (flt (by decide : ¬ ((28 : Int32) < (28 : Int32)))).2.1 (by decide) (by decide) k) ?_
                                                          refine Goes.st (U' := T87.setTop (mkF m 49 #[.val (.int p1), .val (.int (1 : Int32)), .val (.int (28 : Int32))] [(.int (1 : Int32))])) (fun t k => XS.iloadN X87.here hx rfl (hb hby d2_48) rfl k) ?_
                                                          refine Goes.retZ X87 hx (BodyLoose.notSynchronized Bd) Bd.returns (hb hby d2_49) rfl (by decide) (by decide) ?_
                                                          show Q2 Z p1 na k h0 n0 _ T87.heap _
                                                          rw [e87]
                                                          exact ⟨(congrArg some (congrArg _ (by unfold fnns; rw [if_neg hc22]; rw [if_pos hc33]; rw [if_neg hc22_1]; rw [if_pos hc33_1]; rw [if_neg hc22_2]; rw [if_pos hc33_2]; rw [if_neg hc22_3]; rw [if_pos hc33_3]; rw [if_neg hc22_4]; rw [if_pos hc33_4]; rw [if_neg hc22_5]; rw [if_pos hc33_5]; rw [if_neg hc22_6]; rw [if_pos hc33_6]; rw [if_neg hc22_7]; rw [if_pos hc33_7]; rw [if_neg hc22_8]; rw [if_pos hc33_8]; rw [if_neg hc22_9]; rw [if_pos hc33_9]; rw [if_neg hc22_10]; rw [if_pos hc33_10]; rw [if_neg hc22_11]; rw [if_pos hc33_11]; rw [if_neg hc22_12]; rw [if_pos hc33_12]; rw [if_neg hc22_13]; rw [if_neg hc33_13]))), N0, rfl⟩
                                                    · refine Goes.st (U' := T77.setTop (mkF m 36 #[.val (.int p1), .val (.int (0 : Int32)), .val (.int (24 : Int32))] [])) (fun t k => XS.icmpNo X77.here hx rfl (hb hby d2_33) rfl (flt hc33_12).2.2.1 k) ?_
                                                      refine Goes.st (U' := T77.setTop (mkF m 37 #[.val (.int p1), .val (.int (0 : Int32)), .val (.int (24 : Int32))] [(.int (1 : Int32))])) (fun t k => XS.iconst X77.here hx rfl (hb hby d2_36) k) ?_
                                                      refine Goes.st (U' := T77.setTop (mkF m 41 #[.val (.int p1), .val (.int (0 : Int32)), .val (.int (24 : Int32))] [(.int (1 : Int32))])) (fun t k => XS.goto X77.here hx rfl (pc0 := 37) (pc' := 41) rfl (hb hby d2_37) (by decide) (by decide) k) ?_
                                                      refine Goes.st (U' := T77.setTop (mkF m 42 #[.val (.int p1), .val (.int (1 : Int32)), .val (.int (24 : Int32))] [])) (fun t k => XS.istoreN X77.here hx rfl (hb hby d2_41) rfl (l' := #[.val (.int p1), .val (.int (1 : Int32)), .val (.int (24 : Int32))]) rfl k) ?_
                                                      refine Goes.st (U' := T77.setTop (mkF m 45 #[.val (.int p1), .val (.int (1 : Int32)), .val (.int (26 : Int32))] [])) (fun t k => XS.iinc X77.here hx rfl (hb hby d2_42) rfl (l' := #[.val (.int p1), .val (.int (1 : Int32)), .val (.int (26 : Int32))]) rfl k) ?_
                                                      refine Goes.st (U' := T77.setTop (mkF m 4 #[.val (.int p1), .val (.int (1 : Int32)), .val (.int (26 : Int32))] [])) (fun t k => XS.goto X77.here hx rfl (pc0 := 45) (pc' := 4) rfl (hb hby d2_45) (by decide) (by decide) k) ?_
                                                      refine Goes.st (U' := T77.setTop (mkF m 5 #[.val (.int p1), .val (.int (1 : Int32)), .val (.int (26 : Int32))] [(.int (26 : Int32))])) (fun t k => XS.iloadN X77.here hx rfl (hb hby d2_4) rfl k) ?_
                                                      obtain ⟨T89, X89, e89, st89⟩ := getS2 X77 hx hZ hown (host := "") (Or.inl (hw _ (List.mem_of_getElem? (i := 8) rfl))) Via.refl e77 S_NAME_STARTS (g := (mkF m 5 #[.val (.int p1), .val (.int (1 : Int32)), .val (.int (26 : Int32))] [(.int (26 : Int32))])) rfl (hb hby d2_5)
                                                      refine Goes.st (U' := T89.setTop (mkF m 8 #[.val (.int p1), .val (.int (1 : Int32)), .val (.int (26 : Int32))] [(.ref na), (.int (26 : Int32))])) (fun t k => st89 t k) ?_
                                                      have Vx90 := V_na
                                                      obtain ⟨cl90, Ar90, -, S90, Nn90, -, -⟩ := Vx90
                                                      refine Goes.st (U' := T89.setTop (mkF m 9 #[.val (.int p1), .val (.int (1 : Int32)), .val (.int (26 : Int32))] [(.int (28 : Int32)), (.int (26 : Int32))])) (fun t k => (X89.arraylength hx (by rw [e89]; exact Ar90.1) (State.isArrayOf_alike hZ.alike Ar90.2.1) (g := (mkF m 8 #[.val (.int p1), .val (.int (1 : Int32)), .val (.int (26 : Int32))] [(.ref na), (.int (26 : Int32))])) rfl rfl (hb hby d2_8) t (by rw [len_of S90 Nn90]; exact k))) ?_
                                                      refine Goes.st (U' := T89.setTop (mkF m 12 #[.val (.int p1), .val (.int (1 : Int32)), .val (.int (26 : Int32))] [])) (fun t k => XS.icmpNo X89.here hx rfl (hb hby d2_9) rfl (tlt (by decide : (26 : Int32) < (28 : Int32))).2.1 k) ?_
                                                      refine Goes.st (U' := T89.setTop (mkF m 13 #[.val (.int p1), .val (.int (1 : Int32)), .val (.int (26 : Int32))] [(.int (1 : Int32))])) (fun t k => XS.iloadN X89.here hx rfl (hb hby d2_12) rfl k) ?_
                                                      refine Goes.st (U' := T89.setTop (mkF m 48 #[.val (.int p1), .val (.int (1 : Int32)), .val (.int (26 : Int32))] [])) (fun t k => XS.ifYes X89.here hx rfl (pc0 := 13) (pc' := 48) rfl (hb hby d2_13) rfl ((if0 _ _).trans (feq (by decide : ¬ ((1 : Int32) = (0 : Int32)))).2) (by decide) (by decide) k) ?_
                                                      refine Goes.st (U' := T89.setTop (mkF m 49 #[.val (.int p1), .val (.int (1 : Int32)), .val (.int (26 : Int32))] [(.int (1 : Int32))])) (fun t k => XS.iloadN X89.here hx rfl (hb hby d2_48) rfl k) ?_
                                                      refine Goes.retZ X89 hx (BodyLoose.notSynchronized Bd) Bd.returns (hb hby d2_49) rfl (by decide) (by decide) ?_
                                                      show Q2 Z p1 na k h0 n0 _ T89.heap _
                                                      rw [e89]
                                                      exact ⟨(congrArg some (congrArg _ (by unfold fnns; rw [if_neg hc22]; rw [if_pos hc33]; rw [if_neg hc22_1]; rw [if_pos hc33_1]; rw [if_neg hc22_2]; rw [if_pos hc33_2]; rw [if_neg hc22_3]; rw [if_pos hc33_3]; rw [if_neg hc22_4]; rw [if_pos hc33_4]; rw [if_neg hc22_5]; rw [if_pos hc33_5]; rw [if_neg hc22_6]; rw [if_pos hc33_6]; rw [if_neg hc22_7]; rw [if_pos hc33_7]; rw [if_neg hc22_8]; rw [if_pos hc33_8]; rw [if_neg hc22_9]; rw [if_pos hc33_9]; rw [if_neg hc22_10]; rw [if_pos hc33_10]; rw [if_neg hc22_11]; rw [if_pos hc33_11]; rw [if_neg hc22_12]; rw [if_neg hc33_12]))), N0, rfl⟩
                                                · refine Goes.st (U' := T71.setTop (mkF m 36 #[.val (.int p1), .val (.int (0 : Int32)), .val (.int (22 : Int32))] [])) (fun t k => XS.icmpNo X71.here hx rfl (hb hby d2_33) rfl (flt hc33_11).2.2.1 k) ?_
                                                  refine Goes.st (U' := T71.setTop (mkF m 37 #[.val (.int p1), .val (.int (0 : Int32)), .val (.int (22 : Int32))] [(.int (1 : Int32))])) (fun t k => XS.iconst X71.here hx rfl (hb hby d2_36) k) ?_
                                                  refine Goes.st (U' := T71.setTop (mkF m 41 #[.val (.int p1), .val (.int (0 : Int32)), .val (.int (22 : Int32))] [(.int (1 : Int32))])) (fun t k => XS.goto X71.here hx rfl (pc0 := 37) (pc' := 41) rfl (hb hby d2_37) (by decide) (by decide) k) ?_
                                                  refine Goes.st (U' := T71.setTop (mkF m 42 #[.val (.int p1), .val (.int (1 : Int32)), .val (.int (22 : Int32))] [])) (fun t k => XS.istoreN X71.here hx rfl (hb hby d2_41) rfl (l' := #[.val (.int p1), .val (.int (1 : Int32)), .val (.int (22 : Int32))]) rfl k) ?_
                                                  refine Goes.st (U' := T71.setTop (mkF m 45 #[.val (.int p1), .val (.int (1 : Int32)), .val (.int (24 : Int32))] [])) (fun t k => XS.iinc X71.here hx rfl (hb hby d2_42) rfl (l' := #[.val (.int p1), .val (.int (1 : Int32)), .val (.int (24 : Int32))]) rfl k) ?_
                                                  refine Goes.st (U' := T71.setTop (mkF m 4 #[.val (.int p1), .val (.int (1 : Int32)), .val (.int (24 : Int32))] [])) (fun t k => XS.goto X71.here hx rfl (pc0 := 45) (pc' := 4) rfl (hb hby d2_45) (by decide) (by decide) k) ?_
                                                  refine Goes.st (U' := T71.setTop (mkF m 5 #[.val (.int p1), .val (.int (1 : Int32)), .val (.int (24 : Int32))] [(.int (24 : Int32))])) (fun t k => XS.iloadN X71.here hx rfl (hb hby d2_4) rfl k) ?_
                                                  obtain ⟨T91, X91, e91, st91⟩ := getS2 X71 hx hZ hown (host := "") (Or.inl (hw _ (List.mem_of_getElem? (i := 8) rfl))) Via.refl e71 S_NAME_STARTS (g := (mkF m 5 #[.val (.int p1), .val (.int (1 : Int32)), .val (.int (24 : Int32))] [(.int (24 : Int32))])) rfl (hb hby d2_5)
                                                  refine Goes.st (U' := T91.setTop (mkF m 8 #[.val (.int p1), .val (.int (1 : Int32)), .val (.int (24 : Int32))] [(.ref na), (.int (24 : Int32))])) (fun t k => st91 t k) ?_
                                                  have Vx92 := V_na
                                                  obtain ⟨cl92, Ar92, -, S92, Nn92, -, -⟩ := Vx92
                                                  refine Goes.st (U' := T91.setTop (mkF m 9 #[.val (.int p1), .val (.int (1 : Int32)), .val (.int (24 : Int32))] [(.int (28 : Int32)), (.int (24 : Int32))])) (fun t k => (X91.arraylength hx (by rw [e91]; exact Ar92.1) (State.isArrayOf_alike hZ.alike Ar92.2.1) (g := (mkF m 8 #[.val (.int p1), .val (.int (1 : Int32)), .val (.int (24 : Int32))] [(.ref na), (.int (24 : Int32))])) rfl rfl (hb hby d2_8) t (by rw [len_of S92 Nn92]; exact k))) ?_
                                                  refine Goes.st (U' := T91.setTop (mkF m 12 #[.val (.int p1), .val (.int (1 : Int32)), .val (.int (24 : Int32))] [])) (fun t k => XS.icmpNo X91.here hx rfl (hb hby d2_9) rfl (tlt (by decide : (24 : Int32) < (28 : Int32))).2.1 k) ?_
                                                  refine Goes.st (U' := T91.setTop (mkF m 13 #[.val (.int p1), .val (.int (1 : Int32)), .val (.int (24 : Int32))] [(.int (1 : Int32))])) (fun t k => XS.iloadN X91.here hx rfl (hb hby d2_12) rfl k) ?_
                                                  refine Goes.st (U' := T91.setTop (mkF m 48 #[.val (.int p1), .val (.int (1 : Int32)), .val (.int (24 : Int32))] [])) (fun t k => XS.ifYes X91.here hx rfl (pc0 := 13) (pc' := 48) rfl (hb hby d2_13) rfl ((if0 _ _).trans (feq (by decide : ¬ ((1 : Int32) = (0 : Int32)))).2) (by decide) (by decide) k) ?_
                                                  refine Goes.st (U' := T91.setTop (mkF m 49 #[.val (.int p1), .val (.int (1 : Int32)), .val (.int (24 : Int32))] [(.int (1 : Int32))])) (fun t k => XS.iloadN X91.here hx rfl (hb hby d2_48) rfl k) ?_
                                                  refine Goes.retZ X91 hx (BodyLoose.notSynchronized Bd) Bd.returns (hb hby d2_49) rfl (by decide) (by decide) ?_
                                                  show Q2 Z p1 na k h0 n0 _ T91.heap _
                                                  rw [e91]
                                                  exact ⟨(congrArg some (congrArg _ (by unfold fnns; rw [if_neg hc22]; rw [if_pos hc33]; rw [if_neg hc22_1]; rw [if_pos hc33_1]; rw [if_neg hc22_2]; rw [if_pos hc33_2]; rw [if_neg hc22_3]; rw [if_pos hc33_3]; rw [if_neg hc22_4]; rw [if_pos hc33_4]; rw [if_neg hc22_5]; rw [if_pos hc33_5]; rw [if_neg hc22_6]; rw [if_pos hc33_6]; rw [if_neg hc22_7]; rw [if_pos hc33_7]; rw [if_neg hc22_8]; rw [if_pos hc33_8]; rw [if_neg hc22_9]; rw [if_pos hc33_9]; rw [if_neg hc22_10]; rw [if_pos hc33_10]; rw [if_neg hc22_11]; rw [if_neg hc33_11]))), N0, rfl⟩
                                            · refine Goes.st (U' := T65.setTop (mkF m 36 #[.val (.int p1), .val (.int (0 : Int32)), .val (.int (20 : Int32))] [])) (fun t k => XS.icmpNo X65.here hx rfl (hb hby d2_33) rfl (flt hc33_10).2.2.1 k) ?_
                                              refine Goes.st (U' := T65.setTop (mkF m 37 #[.val (.int p1), .val (.int (0 : Int32)), .val (.int (20 : Int32))] [(.int (1 : Int32))])) (fun t k => XS.iconst X65.here hx rfl (hb hby d2_36) k) ?_
                                              refine Goes.st (U' := T65.setTop (mkF m 41 #[.val (.int p1), .val (.int (0 : Int32)), .val (.int (20 : Int32))] [(.int (1 : Int32))])) (fun t k => XS.goto X65.here hx rfl (pc0 := 37) (pc' := 41) rfl (hb hby d2_37) (by decide) (by decide) k) ?_
                                              refine Goes.st (U' := T65.setTop (mkF m 42 #[.val (.int p1), .val (.int (1 : Int32)), .val (.int (20 : Int32))] [])) (fun t k => XS.istoreN X65.here hx rfl (hb hby d2_41) rfl (l' := #[.val (.int p1), .val (.int (1 : Int32)), .val (.int (20 : Int32))]) rfl k) ?_
                                              refine Goes.st (U' := T65.setTop (mkF m 45 #[.val (.int p1), .val (.int (1 : Int32)), .val (.int (22 : Int32))] [])) (fun t k => XS.iinc X65.here hx rfl (hb hby d2_42) rfl (l' := #[.val (.int p1), .val (.int (1 : Int32)), .val (.int (22 : Int32))]) rfl k) ?_
                                              refine Goes.st (U' := T65.setTop (mkF m 4 #[.val (.int p1), .val (.int (1 : Int32)), .val (.int (22 : Int32))] [])) (fun t k => XS.goto X65.here hx rfl (pc0 := 45) (pc' := 4) rfl (hb hby d2_45) (by decide) (by decide) k) ?_
                                              refine Goes.st (U' := T65.setTop (mkF m 5 #[.val (.int p1), .val (.int (1 : Int32)), .val (.int (22 : Int32))] [(.int (22 : Int32))])) (fun t k => XS.iloadN X65.here hx rfl (hb hby d2_4) rfl k) ?_
                                              obtain ⟨T93, X93, e93, st93⟩ := getS2 X65 hx hZ hown (host := "") (Or.inl (hw _ (List.mem_of_getElem? (i := 8) rfl))) Via.refl e65 S_NAME_STARTS (g := (mkF m 5 #[.val (.int p1), .val (.int (1 : Int32)), .val (.int (22 : Int32))] [(.int (22 : Int32))])) rfl (hb hby d2_5)
                                              refine Goes.st (U' := T93.setTop (mkF m 8 #[.val (.int p1), .val (.int (1 : Int32)), .val (.int (22 : Int32))] [(.ref na), (.int (22 : Int32))])) (fun t k => st93 t k) ?_
                                              have Vx94 := V_na
                                              obtain ⟨cl94, Ar94, -, S94, Nn94, -, -⟩ := Vx94
                                              refine Goes.st (U' := T93.setTop (mkF m 9 #[.val (.int p1), .val (.int (1 : Int32)), .val (.int (22 : Int32))] [(.int (28 : Int32)), (.int (22 : Int32))])) (fun t k => (X93.arraylength hx (by rw [e93]; exact Ar94.1) (State.isArrayOf_alike hZ.alike Ar94.2.1) (g := (mkF m 8 #[.val (.int p1), .val (.int (1 : Int32)), .val (.int (22 : Int32))] [(.ref na), (.int (22 : Int32))])) rfl rfl (hb hby d2_8) t (by rw [len_of S94 Nn94]; exact k))) ?_
                                              refine Goes.st (U' := T93.setTop (mkF m 12 #[.val (.int p1), .val (.int (1 : Int32)), .val (.int (22 : Int32))] [])) (fun t k => XS.icmpNo X93.here hx rfl (hb hby d2_9) rfl (tlt (by decide : (22 : Int32) < (28 : Int32))).2.1 k) ?_
                                              refine Goes.st (U' := T93.setTop (mkF m 13 #[.val (.int p1), .val (.int (1 : Int32)), .val (.int (22 : Int32))] [(.int (1 : Int32))])) (fun t k => XS.iloadN X93.here hx rfl (hb hby d2_12) rfl k) ?_
                                              refine Goes.st (U' := T93.setTop (mkF m 48 #[.val (.int p1), .val (.int (1 : Int32)), .val (.int (22 : Int32))] [])) (fun t k => XS.ifYes X93.here hx rfl (pc0 := 13) (pc' := 48) rfl (hb hby d2_13) rfl ((if0 _ _).trans (feq (by decide : ¬ ((1 : Int32) = (0 : Int32)))).2) (by decide) (by decide) k) ?_
                                              refine Goes.st (U' := T93.setTop (mkF m 49 #[.val (.int p1), .val (.int (1 : Int32)), .val (.int (22 : Int32))] [(.int (1 : Int32))])) (fun t k => XS.iloadN X93.here hx rfl (hb hby d2_48) rfl k) ?_
                                              refine Goes.retZ X93 hx (BodyLoose.notSynchronized Bd) Bd.returns (hb hby d2_49) rfl (by decide) (by decide) ?_
                                              show Q2 Z p1 na k h0 n0 _ T93.heap _
                                              rw [e93]
                                              exact ⟨(congrArg some (congrArg _ (by unfold fnns; rw [if_neg hc22]; rw [if_pos hc33]; rw [if_neg hc22_1]; rw [if_pos hc33_1]; rw [if_neg hc22_2]; rw [if_pos hc33_2]; rw [if_neg hc22_3]; rw [if_pos hc33_3]; rw [if_neg hc22_4]; rw [if_pos hc33_4]; rw [if_neg hc22_5]; rw [if_pos hc33_5]; rw [if_neg hc22_6]; rw [if_pos hc33_6]; rw [if_neg hc22_7]; rw [if_pos hc33_7]; rw [if_neg hc22_8]; rw [if_pos hc33_8]; rw [if_neg hc22_9]; rw [if_pos hc33_9]; rw [if_neg hc22_10]; rw [if_neg hc33_10]))), N0, rfl⟩
                                        · refine Goes.st (U' := T59.setTop (mkF m 36 #[.val (.int p1), .val (.int (0 : Int32)), .val (.int (18 : Int32))] [])) (fun t k => XS.icmpNo X59.here hx rfl (hb hby d2_33) rfl (flt hc33_9).2.2.1 k) ?_
                                          refine Goes.st (U' := T59.setTop (mkF m 37 #[.val (.int p1), .val (.int (0 : Int32)), .val (.int (18 : Int32))] [(.int (1 : Int32))])) (fun t k => XS.iconst X59.here hx rfl (hb hby d2_36) k) ?_
                                          refine Goes.st (U' := T59.setTop (mkF m 41 #[.val (.int p1), .val (.int (0 : Int32)), .val (.int (18 : Int32))] [(.int (1 : Int32))])) (fun t k => XS.goto X59.here hx rfl (pc0 := 37) (pc' := 41) rfl (hb hby d2_37) (by decide) (by decide) k) ?_
                                          refine Goes.st (U' := T59.setTop (mkF m 42 #[.val (.int p1), .val (.int (1 : Int32)), .val (.int (18 : Int32))] [])) (fun t k => XS.istoreN X59.here hx rfl (hb hby d2_41) rfl (l' := #[.val (.int p1), .val (.int (1 : Int32)), .val (.int (18 : Int32))]) rfl k) ?_
                                          refine Goes.st (U' := T59.setTop (mkF m 45 #[.val (.int p1), .val (.int (1 : Int32)), .val (.int (20 : Int32))] [])) (fun t k => XS.iinc X59.here hx rfl (hb hby d2_42) rfl (l' := #[.val (.int p1), .val (.int (1 : Int32)), .val (.int (20 : Int32))]) rfl k) ?_
                                          refine Goes.st (U' := T59.setTop (mkF m 4 #[.val (.int p1), .val (.int (1 : Int32)), .val (.int (20 : Int32))] [])) (fun t k => XS.goto X59.here hx rfl (pc0 := 45) (pc' := 4) rfl (hb hby d2_45) (by decide) (by decide) k) ?_
                                          refine Goes.st (U' := T59.setTop (mkF m 5 #[.val (.int p1), .val (.int (1 : Int32)), .val (.int (20 : Int32))] [(.int (20 : Int32))])) (fun t k => XS.iloadN X59.here hx rfl (hb hby d2_4) rfl k) ?_
                                          obtain ⟨T95, X95, e95, st95⟩ := getS2 X59 hx hZ hown (host := "") (Or.inl (hw _ (List.mem_of_getElem? (i := 8) rfl))) Via.refl e59 S_NAME_STARTS (g := (mkF m 5 #[.val (.int p1), .val (.int (1 : Int32)), .val (.int (20 : Int32))] [(.int (20 : Int32))])) rfl (hb hby d2_5)
                                          refine Goes.st (U' := T95.setTop (mkF m 8 #[.val (.int p1), .val (.int (1 : Int32)), .val (.int (20 : Int32))] [(.ref na), (.int (20 : Int32))])) (fun t k => st95 t k) ?_
                                          have Vx96 := V_na
                                          obtain ⟨cl96, Ar96, -, S96, Nn96, -, -⟩ := Vx96
                                          refine Goes.st (U' := T95.setTop (mkF m 9 #[.val (.int p1), .val (.int (1 : Int32)), .val (.int (20 : Int32))] [(.int (28 : Int32)), (.int (20 : Int32))])) (fun t k => (X95.arraylength hx (by rw [e95]; exact Ar96.1) (State.isArrayOf_alike hZ.alike Ar96.2.1) (g := (mkF m 8 #[.val (.int p1), .val (.int (1 : Int32)), .val (.int (20 : Int32))] [(.ref na), (.int (20 : Int32))])) rfl rfl (hb hby d2_8) t (by rw [len_of S96 Nn96]; exact k))) ?_
                                          refine Goes.st (U' := T95.setTop (mkF m 12 #[.val (.int p1), .val (.int (1 : Int32)), .val (.int (20 : Int32))] [])) (fun t k => XS.icmpNo X95.here hx rfl (hb hby d2_9) rfl (tlt (by decide : (20 : Int32) < (28 : Int32))).2.1 k) ?_
                                          refine Goes.st (U' := T95.setTop (mkF m 13 #[.val (.int p1), .val (.int (1 : Int32)), .val (.int (20 : Int32))] [(.int (1 : Int32))])) (fun t k => XS.iloadN X95.here hx rfl (hb hby d2_12) rfl k) ?_
                                          refine Goes.st (U' := T95.setTop (mkF m 48 #[.val (.int p1), .val (.int (1 : Int32)), .val (.int (20 : Int32))] [])) (fun t k => XS.ifYes X95.here hx rfl (pc0 := 13) (pc' := 48) rfl (hb hby d2_13) rfl ((if0 _ _).trans (feq (by decide : ¬ ((1 : Int32) = (0 : Int32)))).2) (by decide) (by decide) k) ?_
                                          refine Goes.st (U' := T95.setTop (mkF m 49 #[.val (.int p1), .val (.int (1 : Int32)), .val (.int (20 : Int32))] [(.int (1 : Int32))])) (fun t k => XS.iloadN X95.here hx rfl (hb hby d2_48) rfl k) ?_
                                          refine Goes.retZ X95 hx (BodyLoose.notSynchronized Bd) Bd.returns (hb hby d2_49) rfl (by decide) (by decide) ?_
                                          show Q2 Z p1 na k h0 n0 _ T95.heap _
                                          rw [e95]
                                          exact ⟨(congrArg some (congrArg _ (by unfold fnns; rw [if_neg hc22]; rw [if_pos hc33]; rw [if_neg hc22_1]; rw [if_pos hc33_1]; rw [if_neg hc22_2]; rw [if_pos hc33_2]; rw [if_neg hc22_3]; rw [if_pos hc33_3]; rw [if_neg hc22_4]; rw [if_pos hc33_4]; rw [if_neg hc22_5]; rw [if_pos hc33_5]; rw [if_neg hc22_6]; rw [if_pos hc33_6]; rw [if_neg hc22_7]; rw [if_pos hc33_7]; rw [if_neg hc22_8]; rw [if_pos hc33_8]; rw [if_neg hc22_9]; rw [if_neg hc33_9]))), N0, rfl⟩
                                    · refine Goes.st (U' := T53.setTop (mkF m 36 #[.val (.int p1), .val (.int (0 : Int32)), .val (.int (16 : Int32))] [])) (fun t k => XS.icmpNo X53.here hx rfl (hb hby d2_33) rfl (flt hc33_8).2.2.1 k) ?_
                                      refine Goes.st (U' := T53.setTop (mkF m 37 #[.val (.int p1), .val (.int (0 : Int32)), .val (.int (16 : Int32))] [(.int (1 : Int32))])) (fun t k => XS.iconst X53.here hx rfl (hb hby d2_36) k) ?_
                                      refine Goes.st (U' := T53.setTop (mkF m 41 #[.val (.int p1), .val (.int (0 : Int32)), .val (.int (16 : Int32))] [(.int (1 : Int32))])) (fun t k => XS.goto X53.here hx rfl (pc0 := 37) (pc' := 41) rfl (hb hby d2_37) (by decide) (by decide) k) ?_
                                      refine Goes.st (U' := T53.setTop (mkF m 42 #[.val (.int p1), .val (.int (1 : Int32)), .val (.int (16 : Int32))] [])) (fun t k => XS.istoreN X53.here hx rfl (hb hby d2_41) rfl (l' := #[.val (.int p1), .val (.int (1 : Int32)), .val (.int (16 : Int32))]) rfl k) ?_
                                      refine Goes.st (U' := T53.setTop (mkF m 45 #[.val (.int p1), .val (.int (1 : Int32)), .val (.int (18 : Int32))] [])) (fun t k => XS.iinc X53.here hx rfl (hb hby d2_42) rfl (l' := #[.val (.int p1), .val (.int (1 : Int32)), .val (.int (18 : Int32))]) rfl k) ?_
                                      refine Goes.st (U' := T53.setTop (mkF m 4 #[.val (.int p1), .val (.int (1 : Int32)), .val (.int (18 : Int32))] [])) (fun t k => XS.goto X53.here hx rfl (pc0 := 45) (pc' := 4) rfl (hb hby d2_45) (by decide) (by decide) k) ?_
                                      refine Goes.st (U' := T53.setTop (mkF m 5 #[.val (.int p1), .val (.int (1 : Int32)), .val (.int (18 : Int32))] [(.int (18 : Int32))])) (fun t k => XS.iloadN X53.here hx rfl (hb hby d2_4) rfl k) ?_
                                      obtain ⟨T97, X97, e97, st97⟩ := getS2 X53 hx hZ hown (host := "") (Or.inl (hw _ (List.mem_of_getElem? (i := 8) rfl))) Via.refl e53 S_NAME_STARTS (g := (mkF m 5 #[.val (.int p1), .val (.int (1 : Int32)), .val (.int (18 : Int32))] [(.int (18 : Int32))])) rfl (hb hby d2_5)
                                      refine Goes.st (U' := T97.setTop (mkF m 8 #[.val (.int p1), .val (.int (1 : Int32)), .val (.int (18 : Int32))] [(.ref na), (.int (18 : Int32))])) (fun t k => st97 t k) ?_
                                      have Vx98 := V_na
                                      obtain ⟨cl98, Ar98, -, S98, Nn98, -, -⟩ := Vx98
                                      refine Goes.st (U' := T97.setTop (mkF m 9 #[.val (.int p1), .val (.int (1 : Int32)), .val (.int (18 : Int32))] [(.int (28 : Int32)), (.int (18 : Int32))])) (fun t k => (X97.arraylength hx (by rw [e97]; exact Ar98.1) (State.isArrayOf_alike hZ.alike Ar98.2.1) (g := (mkF m 8 #[.val (.int p1), .val (.int (1 : Int32)), .val (.int (18 : Int32))] [(.ref na), (.int (18 : Int32))])) rfl rfl (hb hby d2_8) t (by rw [len_of S98 Nn98]; exact k))) ?_
                                      refine Goes.st (U' := T97.setTop (mkF m 12 #[.val (.int p1), .val (.int (1 : Int32)), .val (.int (18 : Int32))] [])) (fun t k => XS.icmpNo X97.here hx rfl (hb hby d2_9) rfl (tlt (by decide : (18 : Int32) < (28 : Int32))).2.1 k) ?_
                                      refine Goes.st (U' := T97.setTop (mkF m 13 #[.val (.int p1), .val (.int (1 : Int32)), .val (.int (18 : Int32))] [(.int (1 : Int32))])) (fun t k => XS.iloadN X97.here hx rfl (hb hby d2_12) rfl k) ?_
                                      refine Goes.st (U' := T97.setTop (mkF m 48 #[.val (.int p1), .val (.int (1 : Int32)), .val (.int (18 : Int32))] [])) (fun t k => XS.ifYes X97.here hx rfl (pc0 := 13) (pc' := 48) rfl (hb hby d2_13) rfl ((if0 _ _).trans (feq (by decide : ¬ ((1 : Int32) = (0 : Int32)))).2) (by decide) (by decide) k) ?_
                                      refine Goes.st (U' := T97.setTop (mkF m 49 #[.val (.int p1), .val (.int (1 : Int32)), .val (.int (18 : Int32))] [(.int (1 : Int32))])) (fun t k => XS.iloadN X97.here hx rfl (hb hby d2_48) rfl k) ?_
                                      refine Goes.retZ X97 hx (BodyLoose.notSynchronized Bd) Bd.returns (hb hby d2_49) rfl (by decide) (by decide) ?_
                                      show Q2 Z p1 na k h0 n0 _ T97.heap _
                                      rw [e97]
                                      exact ⟨(congrArg some (congrArg _ (by unfold fnns; rw [if_neg hc22]; rw [if_pos hc33]; rw [if_neg hc22_1]; rw [if_pos hc33_1]; rw [if_neg hc22_2]; rw [if_pos hc33_2]; rw [if_neg hc22_3]; rw [if_pos hc33_3]; rw [if_neg hc22_4]; rw [if_pos hc33_4]; rw [if_neg hc22_5]; rw [if_pos hc33_5]; rw [if_neg hc22_6]; rw [if_pos hc33_6]; rw [if_neg hc22_7]; rw [if_pos hc33_7]; rw [if_neg hc22_8]; rw [if_neg hc33_8]))), N0, rfl⟩
                                · refine Goes.st (U' := T47.setTop (mkF m 36 #[.val (.int p1), .val (.int (0 : Int32)), .val (.int (14 : Int32))] [])) (fun t k => XS.icmpNo X47.here hx rfl (hb hby d2_33) rfl (flt hc33_7).2.2.1 k) ?_
                                  refine Goes.st (U' := T47.setTop (mkF m 37 #[.val (.int p1), .val (.int (0 : Int32)), .val (.int (14 : Int32))] [(.int (1 : Int32))])) (fun t k => XS.iconst X47.here hx rfl (hb hby d2_36) k) ?_
                                  refine Goes.st (U' := T47.setTop (mkF m 41 #[.val (.int p1), .val (.int (0 : Int32)), .val (.int (14 : Int32))] [(.int (1 : Int32))])) (fun t k => XS.goto X47.here hx rfl (pc0 := 37) (pc' := 41) rfl (hb hby d2_37) (by decide) (by decide) k) ?_
                                  refine Goes.st (U' := T47.setTop (mkF m 42 #[.val (.int p1), .val (.int (1 : Int32)), .val (.int (14 : Int32))] [])) (fun t k => XS.istoreN X47.here hx rfl (hb hby d2_41) rfl (l' := #[.val (.int p1), .val (.int (1 : Int32)), .val (.int (14 : Int32))]) rfl k) ?_
                                  refine Goes.st (U' := T47.setTop (mkF m 45 #[.val (.int p1), .val (.int (1 : Int32)), .val (.int (16 : Int32))] [])) (fun t k => XS.iinc X47.here hx rfl (hb hby d2_42) rfl (l' := #[.val (.int p1), .val (.int (1 : Int32)), .val (.int (16 : Int32))]) rfl k) ?_
                                  refine Goes.st (U' := T47.setTop (mkF m 4 #[.val (.int p1), .val (.int (1 : Int32)), .val (.int (16 : Int32))] [])) (fun t k => XS.goto X47.here hx rfl (pc0 := 45) (pc' := 4) rfl (hb hby d2_45) (by decide) (by decide) k) ?_
                                  refine Goes.st (U' := T47.setTop (mkF m 5 #[.val (.int p1), .val (.int (1 : Int32)), .val (.int (16 : Int32))] [(.int (16 : Int32))])) (fun t k => XS.iloadN X47.here hx rfl (hb hby d2_4) rfl k) ?_
                                  obtain ⟨T99, X99, e99, st99⟩ := getS2 X47 hx hZ hown (host := "") (Or.inl (hw _ (List.mem_of_getElem? (i := 8) rfl))) Via.refl e47 S_NAME_STARTS (g := (mkF m 5 #[.val (.int p1), .val (.int (1 : Int32)), .val (.int (16 : Int32))] [(.int (16 : Int32))])) rfl (hb hby d2_5)
                                  refine Goes.st (U' := T99.setTop (mkF m 8 #[.val (.int p1), .val (.int (1 : Int32)), .val (.int (16 : Int32))] [(.ref na), (.int (16 : Int32))])) (fun t k => st99 t k) ?_
                                  have Vx100 := V_na
                                  obtain ⟨cl100, Ar100, -, S100, Nn100, -, -⟩ := Vx100
                                  refine Goes.st (U' := T99.setTop (mkF m 9 #[.val (.int p1), .val (.int (1 : Int32)), .val (.int (16 : Int32))] [(.int (28 : Int32)), (.int (16 : Int32))])) (fun t k => (X99.arraylength hx (by rw [e99]; exact Ar100.1) (State.isArrayOf_alike hZ.alike Ar100.2.1) (g := (mkF m 8 #[.val (.int p1), .val (.int (1 : Int32)), .val (.int (16 : Int32))] [(.ref na), (.int (16 : Int32))])) rfl rfl (hb hby d2_8) t (by rw [len_of S100 Nn100]; exact k))) ?_
                                  refine Goes.st (U' := T99.setTop (mkF m 12 #[.val (.int p1), .val (.int (1 : Int32)), .val (.int (16 : Int32))] [])) (fun t k => XS.icmpNo X99.here hx rfl (hb hby d2_9) rfl (tlt (by decide : (16 : Int32) < (28 : Int32))).2.1 k) ?_
                                  refine Goes.st (U' := T99.setTop (mkF m 13 #[.val (.int p1), .val (.int (1 : Int32)), .val (.int (16 : Int32))] [(.int (1 : Int32))])) (fun t k => XS.iloadN X99.here hx rfl (hb hby d2_12) rfl k) ?_
                                  refine Goes.st (U' := T99.setTop (mkF m 48 #[.val (.int p1), .val (.int (1 : Int32)), .val (.int (16 : Int32))] [])) (fun t k => XS.ifYes X99.here hx rfl (pc0 := 13) (pc' := 48) rfl (hb hby d2_13) rfl ((if0 _ _).trans (feq (by decide : ¬ ((1 : Int32) = (0 : Int32)))).2) (by decide) (by decide) k) ?_
                                  refine Goes.st (U' := T99.setTop (mkF m 49 #[.val (.int p1), .val (.int (1 : Int32)), .val (.int (16 : Int32))] [(.int (1 : Int32))])) (fun t k => XS.iloadN X99.here hx rfl (hb hby d2_48) rfl k) ?_
                                  refine Goes.retZ X99 hx (BodyLoose.notSynchronized Bd) Bd.returns (hb hby d2_49) rfl (by decide) (by decide) ?_
                                  show Q2 Z p1 na k h0 n0 _ T99.heap _
                                  rw [e99]
                                  exact ⟨(congrArg some (congrArg _ (by unfold fnns; rw [if_neg hc22]; rw [if_pos hc33]; rw [if_neg hc22_1]; rw [if_pos hc33_1]; rw [if_neg hc22_2]; rw [if_pos hc33_2]; rw [if_neg hc22_3]; rw [if_pos hc33_3]; rw [if_neg hc22_4]; rw [if_pos hc33_4]; rw [if_neg hc22_5]; rw [if_pos hc33_5]; rw [if_neg hc22_6]; rw [if_pos hc33_6]; rw [if_neg hc22_7]; rw [if_neg hc33_7]))), N0, rfl⟩
                            · refine Goes.st (U' := T41.setTop (mkF m 36 #[.val (.int p1), .val (.int (0 : Int32)), .val (.int (12 : Int32))] [])) (fun t k => XS.icmpNo X41.here hx rfl (hb hby d2_33) rfl (flt hc33_6).2.2.1 k) ?_
                              refine Goes.st (U' := T41.setTop (mkF m 37 #[.val (.int p1), .val (.int (0 : Int32)), .val (.int (12 : Int32))] [(.int (1 : Int32))])) (fun t k => XS.iconst X41.here hx rfl (hb hby d2_36) k) ?_
                              refine Goes.st (U' := T41.setTop (mkF m 41 #[.val (.int p1), .val (.int (0 : Int32)), .val (.int (12 : Int32))] [(.int (1 : Int32))])) (fun t k => XS.goto X41.here hx rfl (pc0 := 37) (pc' := 41) rfl (hb hby d2_37) (by decide) (by decide) k) ?_
                              refine Goes.st (U' := T41.setTop (mkF m 42 #[.val (.int p1), .val (.int (1 : Int32)), .val (.int (12 : Int32))] [])) (fun t k => XS.istoreN X41.here hx rfl (hb hby d2_41) rfl (l' := #[.val (.int p1), .val (.int (1 : Int32)), .val (.int (12 : Int32))]) rfl k) ?_
                              refine Goes.st (U' := T41.setTop (mkF m 45 #[.val (.int p1), .val (.int (1 : Int32)), .val (.int (14 : Int32))] [])) (fun t k => XS.iinc X41.here hx rfl (hb hby d2_42) rfl (l' := #[.val (.int p1), .val (.int (1 : Int32)), .val (.int (14 : Int32))]) rfl k) ?_
                              refine Goes.st (U' := T41.setTop (mkF m 4 #[.val (.int p1), .val (.int (1 : Int32)), .val (.int (14 : Int32))] [])) (fun t k => XS.goto X41.here hx rfl (pc0 := 45) (pc' := 4) rfl (hb hby d2_45) (by decide) (by decide) k) ?_
                              refine Goes.st (U' := T41.setTop (mkF m 5 #[.val (.int p1), .val (.int (1 : Int32)), .val (.int (14 : Int32))] [(.int (14 : Int32))])) (fun t k => XS.iloadN X41.here hx rfl (hb hby d2_4) rfl k) ?_
                              obtain ⟨T101, X101, e101, st101⟩ := getS2 X41 hx hZ hown (host := "") (Or.inl (hw _ (List.mem_of_getElem? (i := 8) rfl))) Via.refl e41 S_NAME_STARTS (g := (mkF m 5 #[.val (.int p1), .val (.int (1 : Int32)), .val (.int (14 : Int32))] [(.int (14 : Int32))])) rfl (hb hby d2_5)
                              refine Goes.st (U' := T101.setTop (mkF m 8 #[.val (.int p1), .val (.int (1 : Int32)), .val (.int (14 : Int32))] [(.ref na), (.int (14 : Int32))])) (fun t k => st101 t k) ?_
                              have Vx102 := V_na
                              obtain ⟨cl102, Ar102, -, S102, Nn102, -, -⟩ := Vx102
                              refine Goes.st (U' := T101.setTop (mkF m 9 #[.val (.int p1), .val (.int (1 : Int32)), .val (.int (14 : Int32))] [(.int (28 : Int32)), (.int (14 : Int32))])) (fun t k => (X101.arraylength hx (by rw [e101]; exact Ar102.1) (State.isArrayOf_alike hZ.alike Ar102.2.1) (g := (mkF m 8 #[.val (.int p1), .val (.int (1 : Int32)), .val (.int (14 : Int32))] [(.ref na), (.int (14 : Int32))])) rfl rfl (hb hby d2_8) t (by rw [len_of S102 Nn102]; exact k))) ?_
                              refine Goes.st (U' := T101.setTop (mkF m 12 #[.val (.int p1), .val (.int (1 : Int32)), .val (.int (14 : Int32))] [])) (fun t k => XS.icmpNo X101.here hx rfl (hb hby d2_9) rfl (tlt (by decide : (14 : Int32) < (28 : Int32))).2.1 k) ?_
                              refine Goes.st (U' := T101.setTop (mkF m 13 #[.val (.int p1), .val (.int (1 : Int32)), .val (.int (14 : Int32))] [(.int (1 : Int32))])) (fun t k => XS.iloadN X101.here hx rfl (hb hby d2_12) rfl k) ?_
                              refine Goes.st (U' := T101.setTop (mkF m 48 #[.val (.int p1), .val (.int (1 : Int32)), .val (.int (14 : Int32))] [])) (fun t k => XS.ifYes X101.here hx rfl (pc0 := 13) (pc' := 48) rfl (hb hby d2_13) rfl ((if0 _ _).trans (feq (by decide : ¬ ((1 : Int32) = (0 : Int32)))).2) (by decide) (by decide) k) ?_
                              refine Goes.st (U' := T101.setTop (mkF m 49 #[.val (.int p1), .val (.int (1 : Int32)), .val (.int (14 : Int32))] [(.int (1 : Int32))])) (fun t k => XS.iloadN X101.here hx rfl (hb hby d2_48) rfl k) ?_
                              refine Goes.retZ X101 hx (BodyLoose.notSynchronized Bd) Bd.returns (hb hby d2_49) rfl (by decide) (by decide) ?_
                              show Q2 Z p1 na k h0 n0 _ T101.heap _
                              rw [e101]
                              exact ⟨(congrArg some (congrArg _ (by unfold fnns; rw [if_neg hc22]; rw [if_pos hc33]; rw [if_neg hc22_1]; rw [if_pos hc33_1]; rw [if_neg hc22_2]; rw [if_pos hc33_2]; rw [if_neg hc22_3]; rw [if_pos hc33_3]; rw [if_neg hc22_4]; rw [if_pos hc33_4]; rw [if_neg hc22_5]; rw [if_pos hc33_5]; rw [if_neg hc22_6]; rw [if_neg hc33_6]))), N0, rfl⟩
                        · refine Goes.st (U' := T35.setTop (mkF m 36 #[.val (.int p1), .val (.int (0 : Int32)), .val (.int (10 : Int32))] [])) (fun t k => XS.icmpNo X35.here hx rfl (hb hby d2_33) rfl (flt hc33_5).2.2.1 k) ?_
                          refine Goes.st (U' := T35.setTop (mkF m 37 #[.val (.int p1), .val (.int (0 : Int32)), .val (.int (10 : Int32))] [(.int (1 : Int32))])) (fun t k => XS.iconst X35.here hx rfl (hb hby d2_36) k) ?_
                          refine Goes.st (U' := T35.setTop (mkF m 41 #[.val (.int p1), .val (.int (0 : Int32)), .val (.int (10 : Int32))] [(.int (1 : Int32))])) (fun t k => XS.goto X35.here hx rfl (pc0 := 37) (pc' := 41) rfl (hb hby d2_37) (by decide) (by decide) k) ?_
                          refine Goes.st (U' := T35.setTop (mkF m 42 #[.val (.int p1), .val (.int (1 : Int32)), .val (.int (10 : Int32))] [])) (fun t k => XS.istoreN X35.here hx rfl (hb hby d2_41) rfl (l' := #[.val (.int p1), .val (.int (1 : Int32)), .val (.int (10 : Int32))]) rfl k) ?_
                          refine Goes.st (U' := T35.setTop (mkF m 45 #[.val (.int p1), .val (.int (1 : Int32)), .val (.int (12 : Int32))] [])) (fun t k => XS.iinc X35.here hx rfl (hb hby d2_42) rfl (l' := #[.val (.int p1), .val (.int (1 : Int32)), .val (.int (12 : Int32))]) rfl k) ?_
                          refine Goes.st (U' := T35.setTop (mkF m 4 #[.val (.int p1), .val (.int (1 : Int32)), .val (.int (12 : Int32))] [])) (fun t k => XS.goto X35.here hx rfl (pc0 := 45) (pc' := 4) rfl (hb hby d2_45) (by decide) (by decide) k) ?_
                          refine Goes.st (U' := T35.setTop (mkF m 5 #[.val (.int p1), .val (.int (1 : Int32)), .val (.int (12 : Int32))] [(.int (12 : Int32))])) (fun t k => XS.iloadN X35.here hx rfl (hb hby d2_4) rfl k) ?_
                          obtain ⟨T103, X103, e103, st103⟩ := getS2 X35 hx hZ hown (host := "") (Or.inl (hw _ (List.mem_of_getElem? (i := 8) rfl))) Via.refl e35 S_NAME_STARTS (g := (mkF m 5 #[.val (.int p1), .val (.int (1 : Int32)), .val (.int (12 : Int32))] [(.int (12 : Int32))])) rfl (hb hby d2_5)
                          refine Goes.st (U' := T103.setTop (mkF m 8 #[.val (.int p1), .val (.int (1 : Int32)), .val (.int (12 : Int32))] [(.ref na), (.int (12 : Int32))])) (fun t k => st103 t k) ?_
                          have Vx104 := V_na
                          obtain ⟨cl104, Ar104, -, S104, Nn104, -, -⟩ := Vx104
                          refine Goes.st (U' := T103.setTop (mkF m 9 #[.val (.int p1), .val (.int (1 : Int32)), .val (.int (12 : Int32))] [(.int (28 : Int32)), (.int (12 : Int32))])) (fun t k => (X103.arraylength hx (by rw [e103]; exact Ar104.1) (State.isArrayOf_alike hZ.alike Ar104.2.1) (g := (mkF m 8 #[.val (.int p1), .val (.int (1 : Int32)), .val (.int (12 : Int32))] [(.ref na), (.int (12 : Int32))])) rfl rfl (hb hby d2_8) t (by rw [len_of S104 Nn104]; exact k))) ?_
                          refine Goes.st (U' := T103.setTop (mkF m 12 #[.val (.int p1), .val (.int (1 : Int32)), .val (.int (12 : Int32))] [])) (fun t k => XS.icmpNo X103.here hx rfl (hb hby d2_9) rfl (tlt (by decide : (12 : Int32) < (28 : Int32))).2.1 k) ?_
                          refine Goes.st (U' := T103.setTop (mkF m 13 #[.val (.int p1), .val (.int (1 : Int32)), .val (.int (12 : Int32))] [(.int (1 : Int32))])) (fun t k => XS.iloadN X103.here hx rfl (hb hby d2_12) rfl k) ?_
                          refine Goes.st (U' := T103.setTop (mkF m 48 #[.val (.int p1), .val (.int (1 : Int32)), .val (.int (12 : Int32))] [])) (fun t k => XS.ifYes X103.here hx rfl (pc0 := 13) (pc' := 48) rfl (hb hby d2_13) rfl ((if0 _ _).trans (feq (by decide : ¬ ((1 : Int32) = (0 : Int32)))).2) (by decide) (by decide) k) ?_
                          refine Goes.st (U' := T103.setTop (mkF m 49 #[.val (.int p1), .val (.int (1 : Int32)), .val (.int (12 : Int32))] [(.int (1 : Int32))])) (fun t k => XS.iloadN X103.here hx rfl (hb hby d2_48) rfl k) ?_
                          refine Goes.retZ X103 hx (BodyLoose.notSynchronized Bd) Bd.returns (hb hby d2_49) rfl (by decide) (by decide) ?_
                          show Q2 Z p1 na k h0 n0 _ T103.heap _
                          rw [e103]
                          exact ⟨(congrArg some (congrArg _ (by unfold fnns; rw [if_neg hc22]; rw [if_pos hc33]; rw [if_neg hc22_1]; rw [if_pos hc33_1]; rw [if_neg hc22_2]; rw [if_pos hc33_2]; rw [if_neg hc22_3]; rw [if_pos hc33_3]; rw [if_neg hc22_4]; rw [if_pos hc33_4]; rw [if_neg hc22_5]; rw [if_neg hc33_5]))), N0, rfl⟩
                    · refine Goes.st (U' := T29.setTop (mkF m 36 #[.val (.int p1), .val (.int (0 : Int32)), .val (.int (8 : Int32))] [])) (fun t k => XS.icmpNo X29.here hx rfl (hb hby d2_33) rfl (flt hc33_4).2.2.1 k) ?_
                      refine Goes.st (U' := T29.setTop (mkF m 37 #[.val (.int p1), .val (.int (0 : Int32)), .val (.int (8 : Int32))] [(.int (1 : Int32))])) (fun t k => XS.iconst X29.here hx rfl (hb hby d2_36) k) ?_
                      refine Goes.st (U' := T29.setTop (mkF m 41 #[.val (.int p1), .val (.int (0 : Int32)), .val (.int (8 : Int32))] [(.int (1 : Int32))])) (fun t k => XS.goto X29.here hx rfl (pc0 := 37) (pc' := 41) rfl (hb hby d2_37) (by decide) (by decide) k) ?_
                      refine Goes.st (U' := T29.setTop (mkF m 42 #[.val (.int p1), .val (.int (1 : Int32)), .val (.int (8 : Int32))] [])) (fun t k => XS.istoreN X29.here hx rfl (hb hby d2_41) rfl (l' := #[.val (.int p1), .val (.int (1 : Int32)), .val (.int (8 : Int32))]) rfl k) ?_
                      refine Goes.st (U' := T29.setTop (mkF m 45 #[.val (.int p1), .val (.int (1 : Int32)), .val (.int (10 : Int32))] [])) (fun t k => XS.iinc X29.here hx rfl (hb hby d2_42) rfl (l' := #[.val (.int p1), .val (.int (1 : Int32)), .val (.int (10 : Int32))]) rfl k) ?_
                      refine Goes.st (U' := T29.setTop (mkF m 4 #[.val (.int p1), .val (.int (1 : Int32)), .val (.int (10 : Int32))] [])) (fun t k => XS.goto X29.here hx rfl (pc0 := 45) (pc' := 4) rfl (hb hby d2_45) (by decide) (by decide) k) ?_
                      refine Goes.st (U' := T29.setTop (mkF m 5 #[.val (.int p1), .val (.int (1 : Int32)), .val (.int (10 : Int32))] [(.int (10 : Int32))])) (fun t k => XS.iloadN X29.here hx rfl (hb hby d2_4) rfl k) ?_
                      obtain ⟨T105, X105, e105, st105⟩ := getS2 X29 hx hZ hown (host := "") (Or.inl (hw _ (List.mem_of_getElem? (i := 8) rfl))) Via.refl e29 S_NAME_STARTS (g := (mkF m 5 #[.val (.int p1), .val (.int (1 : Int32)), .val (.int (10 : Int32))] [(.int (10 : Int32))])) rfl (hb hby d2_5)
                      refine Goes.st (U' := T105.setTop (mkF m 8 #[.val (.int p1), .val (.int (1 : Int32)), .val (.int (10 : Int32))] [(.ref na), (.int (10 : Int32))])) (fun t k => st105 t k) ?_
                      have Vx106 := V_na
                      obtain ⟨cl106, Ar106, -, S106, Nn106, -, -⟩ := Vx106
                      refine Goes.st (U' := T105.setTop (mkF m 9 #[.val (.int p1), .val (.int (1 : Int32)), .val (.int (10 : Int32))] [(.int (28 : Int32)), (.int (10 : Int32))])) (fun t k => (X105.arraylength hx (by rw [e105]; exact Ar106.1) (State.isArrayOf_alike hZ.alike Ar106.2.1) (g := (mkF m 8 #[.val (.int p1), .val (.int (1 : Int32)), .val (.int (10 : Int32))] [(.ref na), (.int (10 : Int32))])) rfl rfl (hb hby d2_8) t (by rw [len_of S106 Nn106]; exact k))) ?_
                      refine Goes.st (U' := T105.setTop (mkF m 12 #[.val (.int p1), .val (.int (1 : Int32)), .val (.int (10 : Int32))] [])) (fun t k => XS.icmpNo X105.here hx rfl (hb hby d2_9) rfl (tlt (by decide : (10 : Int32) < (28 : Int32))).2.1 k) ?_
                      refine Goes.st (U' := T105.setTop (mkF m 13 #[.val (.int p1), .val (.int (1 : Int32)), .val (.int (10 : Int32))] [(.int (1 : Int32))])) (fun t k => XS.iloadN X105.here hx rfl (hb hby d2_12) rfl k) ?_
                      refine Goes.st (U' := T105.setTop (mkF m 48 #[.val (.int p1), .val (.int (1 : Int32)), .val (.int (10 : Int32))] [])) (fun t k => XS.ifYes X105.here hx rfl (pc0 := 13) (pc' := 48) rfl (hb hby d2_13) rfl ((if0 _ _).trans (feq (by decide : ¬ ((1 : Int32) = (0 : Int32)))).2) (by decide) (by decide) k) ?_
                      refine Goes.st (U' := T105.setTop (mkF m 49 #[.val (.int p1), .val (.int (1 : Int32)), .val (.int (10 : Int32))] [(.int (1 : Int32))])) (fun t k => XS.iloadN X105.here hx rfl (hb hby d2_48) rfl k) ?_
                      refine Goes.retZ X105 hx (BodyLoose.notSynchronized Bd) Bd.returns (hb hby d2_49) rfl (by decide) (by decide) ?_
                      show Q2 Z p1 na k h0 n0 _ T105.heap _
                      rw [e105]
                      exact ⟨(congrArg some (congrArg _ (by unfold fnns; rw [if_neg hc22]; rw [if_pos hc33]; rw [if_neg hc22_1]; rw [if_pos hc33_1]; rw [if_neg hc22_2]; rw [if_pos hc33_2]; rw [if_neg hc22_3]; rw [if_pos hc33_3]; rw [if_neg hc22_4]; rw [if_neg hc33_4]))), N0, rfl⟩
                · refine Goes.st (U' := T23.setTop (mkF m 36 #[.val (.int p1), .val (.int (0 : Int32)), .val (.int (6 : Int32))] [])) (fun t k => XS.icmpNo X23.here hx rfl (hb hby d2_33) rfl (flt hc33_3).2.2.1 k) ?_
                  refine Goes.st (U' := T23.setTop (mkF m 37 #[.val (.int p1), .val (.int (0 : Int32)), .val (.int (6 : Int32))] [(.int (1 : Int32))])) (fun t k => XS.iconst X23.here hx rfl (hb hby d2_36) k) ?_
                  refine Goes.st (U' := T23.setTop (mkF m 41 #[.val (.int p1), .val (.int (0 : Int32)), .val (.int (6 : Int32))] [(.int (1 : Int32))])) (fun t k => XS.goto X23.here hx rfl (pc0 := 37) (pc' := 41) rfl (hb hby d2_37) (by decide) (by decide) k) ?_
                  refine Goes.st (U' := T23.setTop (mkF m 42 #[.val (.int p1), .val (.int (1 : Int32)), .val (.int (6 : Int32))] [])) (fun t k => XS.istoreN X23.here hx rfl (hb hby d2_41) rfl (l' := #[.val (.int p1), .val (.int (1 : Int32)), .val (.int (6 : Int32))]) rfl k) ?_
                  refine Goes.st (U' := T23.setTop (mkF m 45 #[.val (.int p1), .val (.int (1 : Int32)), .val (.int (8 : Int32))] [])) (fun t k => XS.iinc X23.here hx rfl (hb hby d2_42) rfl (l' := #[.val (.int p1), .val (.int (1 : Int32)), .val (.int (8 : Int32))]) rfl k) ?_
                  refine Goes.st (U' := T23.setTop (mkF m 4 #[.val (.int p1), .val (.int (1 : Int32)), .val (.int (8 : Int32))] [])) (fun t k => XS.goto X23.here hx rfl (pc0 := 45) (pc' := 4) rfl (hb hby d2_45) (by decide) (by decide) k) ?_
                  refine Goes.st (U' := T23.setTop (mkF m 5 #[.val (.int p1), .val (.int (1 : Int32)), .val (.int (8 : Int32))] [(.int (8 : Int32))])) (fun t k => XS.iloadN X23.here hx rfl (hb hby d2_4) rfl k) ?_
                  obtain ⟨T107, X107, e107, st107⟩ := getS2 X23 hx hZ hown (host := "") (Or.inl (hw _ (List.mem_of_getElem? (i := 8) rfl))) Via.refl e23 S_NAME_STARTS (g := (mkF m 5 #[.val (.int p1), .val (.int (1 : Int32)), .val (.int (8 : Int32))] [(.int (8 : Int32))])) rfl (hb hby d2_5)
                  refine Goes.st (U' := T107.setTop (mkF m 8 #[.val (.int p1), .val (.int (1 : Int32)), .val (.int (8 : Int32))] [(.ref na), (.int (8 : Int32))])) (fun t k => st107 t k) ?_
                  have Vx108 := V_na
                  obtain ⟨cl108, Ar108, -, S108, Nn108, -, -⟩ := Vx108
                  refine Goes.st (U' := T107.setTop (mkF m 9 #[.val (.int p1), .val (.int (1 : Int32)), .val (.int (8 : Int32))] [(.int (28 : Int32)), (.int (8 : Int32))])) (fun t k => (X107.arraylength hx (by rw [e107]; exact Ar108.1) (State.isArrayOf_alike hZ.alike Ar108.2.1) (g := (mkF m 8 #[.val (.int p1), .val (.int (1 : Int32)), .val (.int (8 : Int32))] [(.ref na), (.int (8 : Int32))])) rfl rfl (hb hby d2_8) t (by rw [len_of S108 Nn108]; exact k))) ?_
                  refine Goes.st (U' := T107.setTop (mkF m 12 #[.val (.int p1), .val (.int (1 : Int32)), .val (.int (8 : Int32))] [])) (fun t k => XS.icmpNo X107.here hx rfl (hb hby d2_9) rfl (tlt (by decide : (8 : Int32) < (28 : Int32))).2.1 k) ?_
                  refine Goes.st (U' := T107.setTop (mkF m 13 #[.val (.int p1), .val (.int (1 : Int32)), .val (.int (8 : Int32))] [(.int (1 : Int32))])) (fun t k => XS.iloadN X107.here hx rfl (hb hby d2_12) rfl k) ?_
                  refine Goes.st (U' := T107.setTop (mkF m 48 #[.val (.int p1), .val (.int (1 : Int32)), .val (.int (8 : Int32))] [])) (fun t k => XS.ifYes X107.here hx rfl (pc0 := 13) (pc' := 48) rfl (hb hby d2_13) rfl ((if0 _ _).trans (feq (by decide : ¬ ((1 : Int32) = (0 : Int32)))).2) (by decide) (by decide) k) ?_
                  refine Goes.st (U' := T107.setTop (mkF m 49 #[.val (.int p1), .val (.int (1 : Int32)), .val (.int (8 : Int32))] [(.int (1 : Int32))])) (fun t k => XS.iloadN X107.here hx rfl (hb hby d2_48) rfl k) ?_
                  refine Goes.retZ X107 hx (BodyLoose.notSynchronized Bd) Bd.returns (hb hby d2_49) rfl (by decide) (by decide) ?_
                  show Q2 Z p1 na k h0 n0 _ T107.heap _
                  rw [e107]
                  exact ⟨(congrArg some (congrArg _ (by unfold fnns; rw [if_neg hc22]; rw [if_pos hc33]; rw [if_neg hc22_1]; rw [if_pos hc33_1]; rw [if_neg hc22_2]; rw [if_pos hc33_2]; rw [if_neg hc22_3]; rw [if_neg hc33_3]))), N0, rfl⟩
            · refine Goes.st (U' := T17.setTop (mkF m 36 #[.val (.int p1), .val (.int (0 : Int32)), .val (.int (4 : Int32))] [])) (fun t k => XS.icmpNo X17.here hx rfl (hb hby d2_33) rfl (flt hc33_2).2.2.1 k) ?_
              refine Goes.st (U' := T17.setTop (mkF m 37 #[.val (.int p1), .val (.int (0 : Int32)), .val (.int (4 : Int32))] [(.int (1 : Int32))])) (fun t k => XS.iconst X17.here hx rfl (hb hby d2_36) k) ?_
              refine Goes.st (U' := T17.setTop (mkF m 41 #[.val (.int p1), .val (.int (0 : Int32)), .val (.int (4 : Int32))] [(.int (1 : Int32))])) (fun t k => XS.goto X17.here hx rfl (pc0 := 37) (pc' := 41) rfl (hb hby d2_37) (by decide) (by decide) k) ?_
              refine Goes.st (U' := T17.setTop (mkF m 42 #[.val (.int p1), .val (.int (1 : Int32)), .val (.int (4 : Int32))] [])) (fun t k => XS.istoreN X17.here hx rfl (hb hby d2_41) rfl (l' := #[.val (.int p1), .val (.int (1 : Int32)), .val (.int (4 : Int32))]) rfl k) ?_
              refine Goes.st (U' := T17.setTop (mkF m 45 #[.val (.int p1), .val (.int (1 : Int32)), .val (.int (6 : Int32))] [])) (fun t k => XS.iinc X17.here hx rfl (hb hby d2_42) rfl (l' := #[.val (.int p1), .val (.int (1 : Int32)), .val (.int (6 : Int32))]) rfl k) ?_
              refine Goes.st (U' := T17.setTop (mkF m 4 #[.val (.int p1), .val (.int (1 : Int32)), .val (.int (6 : Int32))] [])) (fun t k => XS.goto X17.here hx rfl (pc0 := 45) (pc' := 4) rfl (hb hby d2_45) (by decide) (by decide) k) ?_
              refine Goes.st (U' := T17.setTop (mkF m 5 #[.val (.int p1), .val (.int (1 : Int32)), .val (.int (6 : Int32))] [(.int (6 : Int32))])) (fun t k => XS.iloadN X17.here hx rfl (hb hby d2_4) rfl k) ?_
              obtain ⟨T109, X109, e109, st109⟩ := getS2 X17 hx hZ hown (host := "") (Or.inl (hw _ (List.mem_of_getElem? (i := 8) rfl))) Via.refl e17 S_NAME_STARTS (g := (mkF m 5 #[.val (.int p1), .val (.int (1 : Int32)), .val (.int (6 : Int32))] [(.int (6 : Int32))])) rfl (hb hby d2_5)
              refine Goes.st (U' := T109.setTop (mkF m 8 #[.val (.int p1), .val (.int (1 : Int32)), .val (.int (6 : Int32))] [(.ref na), (.int (6 : Int32))])) (fun t k => st109 t k) ?_
              have Vx110 := V_na
              obtain ⟨cl110, Ar110, -, S110, Nn110, -, -⟩ := Vx110
              refine Goes.st (U' := T109.setTop (mkF m 9 #[.val (.int p1), .val (.int (1 : Int32)), .val (.int (6 : Int32))] [(.int (28 : Int32)), (.int (6 : Int32))])) (fun t k => (X109.arraylength hx (by rw [e109]; exact Ar110.1) (State.isArrayOf_alike hZ.alike Ar110.2.1) (g := (mkF m 8 #[.val (.int p1), .val (.int (1 : Int32)), .val (.int (6 : Int32))] [(.ref na), (.int (6 : Int32))])) rfl rfl (hb hby d2_8) t (by rw [len_of S110 Nn110]; exact k))) ?_
              refine Goes.st (U' := T109.setTop (mkF m 12 #[.val (.int p1), .val (.int (1 : Int32)), .val (.int (6 : Int32))] [])) (fun t k => XS.icmpNo X109.here hx rfl (hb hby d2_9) rfl (tlt (by decide : (6 : Int32) < (28 : Int32))).2.1 k) ?_
              refine Goes.st (U' := T109.setTop (mkF m 13 #[.val (.int p1), .val (.int (1 : Int32)), .val (.int (6 : Int32))] [(.int (1 : Int32))])) (fun t k => XS.iloadN X109.here hx rfl (hb hby d2_12) rfl k) ?_
              refine Goes.st (U' := T109.setTop (mkF m 48 #[.val (.int p1), .val (.int (1 : Int32)), .val (.int (6 : Int32))] [])) (fun t k => XS.ifYes X109.here hx rfl (pc0 := 13) (pc' := 48) rfl (hb hby d2_13) rfl ((if0 _ _).trans (feq (by decide : ¬ ((1 : Int32) = (0 : Int32)))).2) (by decide) (by decide) k) ?_
              refine Goes.st (U' := T109.setTop (mkF m 49 #[.val (.int p1), .val (.int (1 : Int32)), .val (.int (6 : Int32))] [(.int (1 : Int32))])) (fun t k => XS.iloadN X109.here hx rfl (hb hby d2_48) rfl k) ?_
              refine Goes.retZ X109 hx (BodyLoose.notSynchronized Bd) Bd.returns (hb hby d2_49) rfl (by decide) (by decide) ?_
              show Q2 Z p1 na k h0 n0 _ T109.heap _
              rw [e109]
              exact ⟨(congrArg some (congrArg _ (by unfold fnns; rw [if_neg hc22]; rw [if_pos hc33]; rw [if_neg hc22_1]; rw [if_pos hc33_1]; rw [if_neg hc22_2]; rw [if_neg hc33_2]))), N0, rfl⟩
        · refine Goes.st (U' := T11.setTop (mkF m 36 #[.val (.int p1), .val (.int (0 : Int32)), .val (.int (2 : Int32))] [])) (fun t k => XS.icmpNo X11.here hx rfl (hb hby d2_33) rfl (flt hc33_1).2.2.1 k) ?_
          refine Goes.st (U' := T11.setTop (mkF m 37 #[.val (.int p1), .val (.int (0 : Int32)), .val (.int (2 : Int32))] [(.int (1 : Int32))])) (fun t k => XS.iconst X11.here hx rfl (hb hby d2_36) k) ?_
          refine Goes.st (U' := T11.setTop (mkF m 41 #[.val (.int p1), .val (.int (0 : Int32)), .val (.int (2 : Int32))] [(.int (1 : Int32))])) (fun t k => XS.goto X11.here hx rfl (pc0 := 37) (pc' := 41) rfl (hb hby d2_37) (by decide) (by decide) k) ?_
          refine Goes.st (U' := T11.setTop (mkF m 42 #[.val (.int p1), .val (.int (1 : Int32)), .val (.int (2 : Int32))] [])) (fun t k => XS.istoreN X11.here hx rfl (hb hby d2_41) rfl (l' := #[.val (.int p1), .val (.int (1 : Int32)), .val (.int (2 : Int32))]) rfl k) ?_
          refine Goes.st (U' := T11.setTop (mkF m 45 #[.val (.int p1), .val (.int (1 : Int32)), .val (.int (4 : Int32))] [])) (fun t k => XS.iinc X11.here hx rfl (hb hby d2_42) rfl (l' := #[.val (.int p1), .val (.int (1 : Int32)), .val (.int (4 : Int32))]) rfl k) ?_
          refine Goes.st (U' := T11.setTop (mkF m 4 #[.val (.int p1), .val (.int (1 : Int32)), .val (.int (4 : Int32))] [])) (fun t k => XS.goto X11.here hx rfl (pc0 := 45) (pc' := 4) rfl (hb hby d2_45) (by decide) (by decide) k) ?_
          refine Goes.st (U' := T11.setTop (mkF m 5 #[.val (.int p1), .val (.int (1 : Int32)), .val (.int (4 : Int32))] [(.int (4 : Int32))])) (fun t k => XS.iloadN X11.here hx rfl (hb hby d2_4) rfl k) ?_
          obtain ⟨T111, X111, e111, st111⟩ := getS2 X11 hx hZ hown (host := "") (Or.inl (hw _ (List.mem_of_getElem? (i := 8) rfl))) Via.refl e11 S_NAME_STARTS (g := (mkF m 5 #[.val (.int p1), .val (.int (1 : Int32)), .val (.int (4 : Int32))] [(.int (4 : Int32))])) rfl (hb hby d2_5)
          refine Goes.st (U' := T111.setTop (mkF m 8 #[.val (.int p1), .val (.int (1 : Int32)), .val (.int (4 : Int32))] [(.ref na), (.int (4 : Int32))])) (fun t k => st111 t k) ?_
          have Vx112 := V_na
          obtain ⟨cl112, Ar112, -, S112, Nn112, -, -⟩ := Vx112
          refine Goes.st (U' := T111.setTop (mkF m 9 #[.val (.int p1), .val (.int (1 : Int32)), .val (.int (4 : Int32))] [(.int (28 : Int32)), (.int (4 : Int32))])) (fun t k => (X111.arraylength hx (by rw [e111]; exact Ar112.1) (State.isArrayOf_alike hZ.alike Ar112.2.1) (g := (mkF m 8 #[.val (.int p1), .val (.int (1 : Int32)), .val (.int (4 : Int32))] [(.ref na), (.int (4 : Int32))])) rfl rfl (hb hby d2_8) t (by rw [len_of S112 Nn112]; exact k))) ?_
          refine Goes.st (U' := T111.setTop (mkF m 12 #[.val (.int p1), .val (.int (1 : Int32)), .val (.int (4 : Int32))] [])) (fun t k => XS.icmpNo X111.here hx rfl (hb hby d2_9) rfl (tlt (by decide : (4 : Int32) < (28 : Int32))).2.1 k) ?_
          refine Goes.st (U' := T111.setTop (mkF m 13 #[.val (.int p1), .val (.int (1 : Int32)), .val (.int (4 : Int32))] [(.int (1 : Int32))])) (fun t k => XS.iloadN X111.here hx rfl (hb hby d2_12) rfl k) ?_
          refine Goes.st (U' := T111.setTop (mkF m 48 #[.val (.int p1), .val (.int (1 : Int32)), .val (.int (4 : Int32))] [])) (fun t k => XS.ifYes X111.here hx rfl (pc0 := 13) (pc' := 48) rfl (hb hby d2_13) rfl ((if0 _ _).trans (feq (by decide : ¬ ((1 : Int32) = (0 : Int32)))).2) (by decide) (by decide) k) ?_
          refine Goes.st (U' := T111.setTop (mkF m 49 #[.val (.int p1), .val (.int (1 : Int32)), .val (.int (4 : Int32))] [(.int (1 : Int32))])) (fun t k => XS.iloadN X111.here hx rfl (hb hby d2_48) rfl k) ?_
          refine Goes.retZ X111 hx (BodyLoose.notSynchronized Bd) Bd.returns (hb hby d2_49) rfl (by decide) (by decide) ?_
          show Q2 Z p1 na k h0 n0 _ T111.heap _
          rw [e111]
          exact ⟨(congrArg some (congrArg _ (by unfold fnns; rw [if_neg hc22]; rw [if_pos hc33]; rw [if_neg hc22_1]; rw [if_neg hc33_1]))), N0, rfl⟩
    · refine Goes.st (U' := T5.setTop (mkF m 36 #[.val (.int p1), .val (.int (0 : Int32)), .val (.int (0 : Int32))] [])) (fun t k => XS.icmpNo X5.here hx rfl (hb hby d2_33) rfl (flt hc33).2.2.1 k) ?_
      refine Goes.st (U' := T5.setTop (mkF m 37 #[.val (.int p1), .val (.int (0 : Int32)), .val (.int (0 : Int32))] [(.int (1 : Int32))])) (fun t k => XS.iconst X5.here hx rfl (hb hby d2_36) k) ?_
      refine Goes.st (U' := T5.setTop (mkF m 41 #[.val (.int p1), .val (.int (0 : Int32)), .val (.int (0 : Int32))] [(.int (1 : Int32))])) (fun t k => XS.goto X5.here hx rfl (pc0 := 37) (pc' := 41) rfl (hb hby d2_37) (by decide) (by decide) k) ?_
      refine Goes.st (U' := T5.setTop (mkF m 42 #[.val (.int p1), .val (.int (1 : Int32)), .val (.int (0 : Int32))] [])) (fun t k => XS.istoreN X5.here hx rfl (hb hby d2_41) rfl (l' := #[.val (.int p1), .val (.int (1 : Int32)), .val (.int (0 : Int32))]) rfl k) ?_
      refine Goes.st (U' := T5.setTop (mkF m 45 #[.val (.int p1), .val (.int (1 : Int32)), .val (.int (2 : Int32))] [])) (fun t k => XS.iinc X5.here hx rfl (hb hby d2_42) rfl (l' := #[.val (.int p1), .val (.int (1 : Int32)), .val (.int (2 : Int32))]) rfl k) ?_
      refine Goes.st (U' := T5.setTop (mkF m 4 #[.val (.int p1), .val (.int (1 : Int32)), .val (.int (2 : Int32))] [])) (fun t k => XS.goto X5.here hx rfl (pc0 := 45) (pc' := 4) rfl (hb hby d2_45) (by decide) (by decide) k) ?_
      refine Goes.st (U' := T5.setTop (mkF m 5 #[.val (.int p1), .val (.int (1 : Int32)), .val (.int (2 : Int32))] [(.int (2 : Int32))])) (fun t k => XS.iloadN X5.here hx rfl (hb hby d2_4) rfl k) ?_
      obtain ⟨T113, X113, e113, st113⟩ := getS2 X5 hx hZ hown (host := "") (Or.inl (hw _ (List.mem_of_getElem? (i := 8) rfl))) Via.refl e5 S_NAME_STARTS (g := (mkF m 5 #[.val (.int p1), .val (.int (1 : Int32)), .val (.int (2 : Int32))] [(.int (2 : Int32))])) rfl (hb hby d2_5)
      refine Goes.st (U' := T113.setTop (mkF m 8 #[.val (.int p1), .val (.int (1 : Int32)), .val (.int (2 : Int32))] [(.ref na), (.int (2 : Int32))])) (fun t k => st113 t k) ?_
      have Vx114 := V_na
      obtain ⟨cl114, Ar114, -, S114, Nn114, -, -⟩ := Vx114
      refine Goes.st (U' := T113.setTop (mkF m 9 #[.val (.int p1), .val (.int (1 : Int32)), .val (.int (2 : Int32))] [(.int (28 : Int32)), (.int (2 : Int32))])) (fun t k => (X113.arraylength hx (by rw [e113]; exact Ar114.1) (State.isArrayOf_alike hZ.alike Ar114.2.1) (g := (mkF m 8 #[.val (.int p1), .val (.int (1 : Int32)), .val (.int (2 : Int32))] [(.ref na), (.int (2 : Int32))])) rfl rfl (hb hby d2_8) t (by rw [len_of S114 Nn114]; exact k))) ?_
      refine Goes.st (U' := T113.setTop (mkF m 12 #[.val (.int p1), .val (.int (1 : Int32)), .val (.int (2 : Int32))] [])) (fun t k => XS.icmpNo X113.here hx rfl (hb hby d2_9) rfl (tlt (by decide : (2 : Int32) < (28 : Int32))).2.1 k) ?_
      refine Goes.st (U' := T113.setTop (mkF m 13 #[.val (.int p1), .val (.int (1 : Int32)), .val (.int (2 : Int32))] [(.int (1 : Int32))])) (fun t k => XS.iloadN X113.here hx rfl (hb hby d2_12) rfl k) ?_
      refine Goes.st (U' := T113.setTop (mkF m 48 #[.val (.int p1), .val (.int (1 : Int32)), .val (.int (2 : Int32))] [])) (fun t k => XS.ifYes X113.here hx rfl (pc0 := 13) (pc' := 48) rfl (hb hby d2_13) rfl ((if0 _ _).trans (feq (by decide : ¬ ((1 : Int32) = (0 : Int32)))).2) (by decide) (by decide) k) ?_
      refine Goes.st (U' := T113.setTop (mkF m 49 #[.val (.int p1), .val (.int (1 : Int32)), .val (.int (2 : Int32))] [(.int (1 : Int32))])) (fun t k => XS.iloadN X113.here hx rfl (hb hby d2_48) rfl k) ?_
      refine Goes.retZ X113 hx (BodyLoose.notSynchronized Bd) Bd.returns (hb hby d2_49) rfl (by decide) (by decide) ?_
      show Q2 Z p1 na k h0 n0 _ T113.heap _
      rw [e113]
      exact ⟨(congrArg some (congrArg _ (by unfold fnns; rw [if_neg hc22]; rw [if_neg hc33]))), N0, rfl⟩
set_option maxHeartbeats 40000000 in
theorem own_same (p : Int32) : fnns p = fnref p := by
  unfold fnns fnref fnin
  have e65 : (65 : Int32).toInt = 65 := rfl
  have e90 : (90 : Int32).toInt = 90 := rfl
  have e97 : (97 : Int32).toInt = 97 := rfl
  have e122 : (122 : Int32).toInt = 122 := rfl
  have e192 : (192 : Int32).toInt = 192 := rfl
  have e214 : (214 : Int32).toInt = 214 := rfl
  have e216 : (216 : Int32).toInt = 216 := rfl
  have e246 : (246 : Int32).toInt = 246 := rfl
  have e248 : (248 : Int32).toInt = 248 := rfl
  have e767 : (767 : Int32).toInt = 767 := rfl
  have e880 : (880 : Int32).toInt = 880 := rfl
  have e893 : (893 : Int32).toInt = 893 := rfl
  have e895 : (895 : Int32).toInt = 895 := rfl
  have e8191 : (8191 : Int32).toInt = 8191 := rfl
  have e8204 : (8204 : Int32).toInt = 8204 := rfl
  have e8205 : (8205 : Int32).toInt = 8205 := rfl
  have e8304 : (8304 : Int32).toInt = 8304 := rfl
  have e8591 : (8591 : Int32).toInt = 8591 := rfl
  have e11264 : (11264 : Int32).toInt = 11264 := rfl
  have e12271 : (12271 : Int32).toInt = 12271 := rfl
  have e12289 : (12289 : Int32).toInt = 12289 := rfl
  have e55295 : (55295 : Int32).toInt = 55295 := rfl
  have e63744 : (63744 : Int32).toInt = 63744 := rfl
  have e64975 : (64975 : Int32).toInt = 64975 := rfl
  have e65008 : (65008 : Int32).toInt = 65008 := rfl
  have e65533 : (65533 : Int32).toInt = 65533 := rfl
  have e65536 : (65536 : Int32).toInt = 65536 := rfl
  have e983039 : (983039 : Int32).toInt = 983039 := rfl
  simp only [Int32.lt_iff_toInt_lt, e65, e90, e97, e122, e192, e214, e216, e246, e248, e767, e880, e893, e895, e8191, e8204, e8205, e8304, e8591, e11264, e12271, e12289, e55295, e63744, e64975, e65008, e65533, e65536, e983039]
  generalize p.toInt = x
  by_cases h34 : x < 65
  · simp (disch := omega) only [if_pos, if_neg]; try decide +kernel
  by_cases h36 : x ≤ 90
  · simp (disch := omega) only [if_pos, if_neg]; try decide +kernel
  by_cases h38 : x < 97
  · simp (disch := omega) only [if_pos, if_neg]; try decide +kernel
  by_cases h40 : x ≤ 122
  · simp (disch := omega) only [if_pos, if_neg]; try decide +kernel
  by_cases h42 : x < 192
  · simp (disch := omega) only [if_pos, if_neg]; try decide +kernel
  by_cases h44 : x ≤ 214
  · simp (disch := omega) only [if_pos, if_neg]; try decide +kernel
  by_cases h46 : x < 216
  · simp (disch := omega) only [if_pos, if_neg]; try decide +kernel
  by_cases h48 : x ≤ 246
  · simp (disch := omega) only [if_pos, if_neg]; try decide +kernel
  by_cases h50 : x < 248
  · simp (disch := omega) only [if_pos, if_neg]; try decide +kernel
  by_cases h52 : x ≤ 767
  · simp (disch := omega) only [if_pos, if_neg]; try decide +kernel
  by_cases h54 : x < 880
  · simp (disch := omega) only [if_pos, if_neg]; try decide +kernel
  by_cases h56 : x ≤ 893
  · simp (disch := omega) only [if_pos, if_neg]; try decide +kernel
  by_cases h58 : x < 895
  · simp (disch := omega) only [if_pos, if_neg]; try decide +kernel
  by_cases h60 : x ≤ 8191
  · simp (disch := omega) only [if_pos, if_neg]; try decide +kernel
  by_cases h62 : x < 8204
  · simp (disch := omega) only [if_pos, if_neg]; try decide +kernel
  by_cases h64 : x ≤ 8205
  · simp (disch := omega) only [if_pos, if_neg]; try decide +kernel
  by_cases h66 : x < 8304
  · simp (disch := omega) only [if_pos, if_neg]; try decide +kernel
  by_cases h68 : x ≤ 8591
  · simp (disch := omega) only [if_pos, if_neg]; try decide +kernel
  by_cases h70 : x < 11264
  · simp (disch := omega) only [if_pos, if_neg]; try decide +kernel
  by_cases h72 : x ≤ 12271
  · simp (disch := omega) only [if_pos, if_neg]; try decide +kernel
  by_cases h74 : x < 12289
  · simp (disch := omega) only [if_pos, if_neg]; try decide +kernel
  by_cases h76 : x ≤ 55295
  · simp (disch := omega) only [if_pos, if_neg]; try decide +kernel
  by_cases h78 : x < 63744
  · simp (disch := omega) only [if_pos, if_neg]; try decide +kernel
  by_cases h80 : x ≤ 64975
  · simp (disch := omega) only [if_pos, if_neg]; try decide +kernel
  by_cases h82 : x < 65008
  · simp (disch := omega) only [if_pos, if_neg]; try decide +kernel
  by_cases h84 : x ≤ 65533
  · simp (disch := omega) only [if_pos, if_neg]; try decide +kernel
  by_cases h86 : x < 65536
  · simp (disch := omega) only [if_pos, if_neg]; try decide +kernel
  by_cases h88 : x ≤ 983039
  · simp (disch := omega) only [if_pos, if_neg]; try decide +kernel
  simp (disch := omega) only [if_pos, if_neg]; try decide +kernel
theorem d1_0 : decode method_4_code 0 = .ok (.iload_n 0, 1) := by decide +kernel
theorem d1_1 : decode method_4_code 1 = .ok (.invokestatic 20, 3) := by decide +kernel
theorem d1_4 : decode method_4_code 4 = .ok (.iload_n 0, 1) := by decide +kernel
theorem d1_5 : decode method_4_code 5 = .ok (.invokestatic 26, 3) := by decide +kernel
theorem d1_8 : decode method_4_code 8 = .ok (.if_icmp .ne 7, 3) := by decide +kernel
theorem d1_11 : decode method_4_code 11 = .ok (.iconst 1, 1) := by decide +kernel
theorem d1_12 : decode method_4_code 12 = .ok (.goto 4, 3) := by decide +kernel
theorem d1_16 : decode method_4_code 16 = .ok (.ireturn, 1) := by decide +kernel
theorem pd_1 : parseMethodDescriptor "(I)Z" = some ⟨[.int], some .boolean⟩ := by decide +kernel
theorem ef_rm1 (m : MethodId) (p1 : Int32) : entryFrame m #[(.int p1)] 1 = mkF m 0 #[.val (.int p1)] [] := by first | (simp [entryFrame, mkF, argsToLocals, Value.category]; done) | rfl
def Q1 (Z : State) (p1 : Int32) (na : Addr) (k : ClassId) (h0 : Heap) (n0 : Nat) (v : Option Value) (h : Heap) (L : List Loc) : Prop := v = some (.int 1) ∧ Fr n0 L ∧ h = h0
set_option maxRecDepth 65536 in
set_option maxHeartbeats 40000000 in
theorem rm1 (l : Launch) (Z : State) (a0 : Array Value) (hw : ∀ d ∈ tables_1, d.before a0 Z = true) (ws : List Jvm.Cond) (p1 : Int32) (na : Addr) (k : ClassId) (h0 : Heap) (n0 : Nat) (Z0 : n0 ≤ h0.size) (S_NAME_STARTS : Sta Z h0 "com/example/chaise/chaise/formats/TermTokenizer" "NAME_STARTS" "[I" (.ref na)) (V_na : Arv Z h0 na k .int (28 : Int32) own_ns (.int (0 : Int32))) :
    MetFree l (⟨"com/example/chaise/chaise/formats/TermTokenizerIsNameStartPinLaw", "check", "(I)Z"⟩ : MethodName) (head1 (Jvm.Cond.code (⟨"com/example/chaise/chaise/formats/TermTokenizerIsNameStartPinLaw", "check", "(I)Z"⟩ : MethodName) method_4_code 1 (some .boolean) :: ws) ({ frames := 2, cells := 0, slots := 0, locals := 27 } : Room)) (fun a U => a = #[(.int p1)] ∧ Z.Warmed39 U.vm ∧ U.heap = h0) (fun _ _ _ _ _ => True) (fun _ U o U' => ∃ v L, o = .returned v ∧ Q1 Z p1 na k h0 n0 v U'.heap L ∧ FrameEnd U o U' L ({ frames := 2, cells := 0, slots := 0, locals := 27 } : Room).cells ({ frames := 2, cells := 0, slots := 0, locals := 27 } : Room).slots) := by
  refine MetFree.of_bodySF (plainFor_of_name pn_0) hisR ?_
  intro p e s m args below meth c s₁ Bd hml0 hP hK
  obtain ⟨rfl, hZ, hh⟩ := hP
  have hx := Bd.exec
  have hby := Bd.bytes
  have hml : c.maxLocals = 1 := hml0
  have hown : s.vm.findClass "com/example/chaise/chaise/formats/TermTokenizerIsNameStartPinLaw" = some m.cls := findClass_of_methodNamed Bd.named
  have hnm := (name_of_methodNamed Bd.named Bd.method).1
  have X0 : Stand p l e ({ frames := 2, cells := 0, slots := 0, locals := 27 } : Room) s m #[(.int p1)] below meth c s₁ [] 0 0 := Stand.of_body Bd
  have e0 : s₁.heap = h0 := by rw [← hh, Bd.state]; rfl
  have N0 := Fr.nil n0
  show Goes p e s below (fun v h L => Q1 Z p1 na k h0 n0 v h L) ({ frames := 2, cells := 0, slots := 0, locals := 27 } : Room).cells ({ frames := 2, cells := 0, slots := 0, locals := 27 } : Room).slots (s₁.setTop (entryFrame m #[(.int p1)] 1))
  refine Goes.st (U' := s₁.setTop (mkF m 0 #[.val (.int p1)] [])) (fun t k => castTop (ef_rm1 m p1) k) ?_
  refine Goes.st (U' := s₁.setTop (mkF m 1 #[.val (.int p1)] [(.int p1)])) (fun t k => XS.iloadN X0.here hx rfl (hb hby d1_0) rfl k) ?_
  obtain ⟨_, _, ⟨T1, L1, k1, n1⟩, -, X1, ⟨Lc1, hQ1, l1, y1, z1⟩, st1⟩ := Jvm.LawKit.callS X0 hx (y := (⟨"com/example/chaise/chaise/formats/TermTokenizer", "isNameStart", "(I)Z"⟩ : MethodName)) hown (mvT hZ (hw _ (List.mem_of_getElem? (i := 4) rfl))) (mvT hZ (hw _ (List.mem_of_getElem? (i := 5) rfl))) (mvT hZ (hw _ (List.mem_of_getElem? (i := 6) rfl))) (mvT hZ (hw _ (List.mem_of_getElem? (i := 7) rfl))) (by decide) (backOf (W := 0) (rm2 l Z a0 hw [] p1 na k h0 n0 Z0 (S_NAME_STARTS) (V_na)) hZ (hw _ (List.mem_of_getElem? (i := 7) rfl)) (hw _ (List.mem_of_getElem? (i := 6) rfl)) (by decide) (by decide)) (g := (mkF m 1 #[.val (.int p1)] [(.int p1)])) rfl (by rw [hml]; rfl) (argsL := [(.int p1)]) (rest := []) (lenOf pd_1 rfl) rfl (by show 2 * 0 + _ ≤ _; exact Nat.le_of_eq rfl) (hb hby d1_1) (fun _ _ => ⟨rfl, e0, (by decide : 0 + 0 ≤ _), (by decide : 0 + 0 ≤ _)⟩)
  dsimp only [Pt.U, Pt.locs, Pt.cells, Pt.slots] at X1 l1 y1 z1 st1 hQ1
  subst l1 y1 z1
  obtain ⟨rfl, N1q, e1⟩ := hQ1
  have N1 := Fr.app N0 N1q
  refine Goes.st (U' := T1.setTop (mkF m 4 #[.val (.int p1)] [(.int (fnns p1))])) st1 ?_
  refine Goes.st (U' := T1.setTop (mkF m 5 #[.val (.int p1)] [(.int p1), (.int (fnns p1))])) (fun t k => XS.iloadN X1.here hx rfl (hb hby d1_4) rfl k) ?_
  obtain ⟨_, _, ⟨T2, L2, k2, n2⟩, -, X2, ⟨Lc2, hQ2, l2, y2, z2⟩, st2⟩ := Jvm.LawKit.callS X1 hx (y := (⟨"com/example/chaise/chaise/formats/TermTokenizerIsNameStartPinLaw", "reference", "(I)Z"⟩ : MethodName)) hown (mvT hZ (hw _ (List.mem_of_getElem? (i := 10) rfl))) (mvT hZ (hw _ (List.mem_of_getElem? (i := 11) rfl))) (mvT hZ (hw _ (List.mem_of_getElem? (i := 2) rfl))) (mvT hZ (hw _ (List.mem_of_getElem? (i := 12) rfl))) (by decide) (backOf (W := 1) (rm3 l Z a0 hw [] p1 h0 n0 Z0) hZ (hw _ (List.mem_of_getElem? (i := 12) rfl)) (hw _ (List.mem_of_getElem? (i := 2) rfl)) (by decide) (by decide)) (g := (mkF m 5 #[.val (.int p1)] [(.int p1), (.int (fnns p1))])) rfl (by rw [hml]; rfl) (argsL := [(.int p1)]) (rest := [(.int (fnns p1))]) (lenOf pd_1 rfl) rfl (by show 2 * 0 + _ ≤ _; exact Nat.le_of_eq rfl) (hb hby d1_5) (fun _ _ => ⟨rfl, e1, (by decide : 0 + 0 ≤ _), (by decide : 0 + 0 ≤ _)⟩)
  dsimp only [Pt.U, Pt.locs, Pt.cells, Pt.slots] at X2 l2 y2 z2 st2 hQ2
  subst l2 y2 z2
  obtain ⟨rfl, N2q, e2⟩ := hQ2
  have N2 := Fr.app N1 N2q
  refine Goes.st (U' := T2.setTop (mkF m 8 #[.val (.int p1)] [(.int (fnref p1)), (.int (fnns p1))])) st2 ?_
  refine Goes.st (U' := T2.setTop (mkF m 11 #[.val (.int p1)] [])) (fun t k => XS.icmpNo X2.here hx rfl (hb hby d1_8) rfl (teq (own_same p1 : (fnns p1) = (fnref p1))).2 k) ?_
  refine Goes.st (U' := T2.setTop (mkF m 12 #[.val (.int p1)] [(.int (1 : Int32))])) (fun t k => XS.iconst X2.here hx rfl (hb hby d1_11) k) ?_
  refine Goes.st (U' := T2.setTop (mkF m 16 #[.val (.int p1)] [(.int (1 : Int32))])) (fun t k => XS.goto X2.here hx rfl (pc0 := 12) (pc' := 16) rfl (hb hby d1_12) (by decide) (by decide) k) ?_
  refine Goes.retZ X2 hx (BodyLoose.notSynchronized Bd) Bd.returns (hb hby d1_16) rfl (by decide) (by decide) ?_
  show Q1 Z p1 na k h0 n0 _ T2.heap _
  rw [e2]
  exact ⟨rfl, N2, rfl⟩
theorem ef_rm0 (m : MethodId) (p1 : Int32) : entryFrame m #[(.int p1)] maxLocals = mkF m 0 #[.val (.int p1)] [] := by first | (simp [entryFrame, mkF, argsToLocals, Value.category, maxLocals]; done) | rfl
def Q0 (Z : State) (p1 : Int32) (na : Addr) (k : ClassId) (h0 : Heap) (n0 : Nat) (v : Option Value) (h : Heap) (L : List Loc) : Prop := v = some (.int 1) ∧ Fr n0 L
set_option maxRecDepth 65536 in
set_option maxHeartbeats 40000000 in
theorem rm0 (l : Launch) (Z : State) (a0 : Array Value) (hw : ∀ d ∈ tables_1, d.before a0 Z = true) (ws : List Jvm.Cond) (p1 : Int32) (na : Addr) (k : ClassId) (h0 : Heap) (n0 : Nat) (Z0 : n0 ≤ h0.size) (S_NAME_STARTS : Sta Z h0 "com/example/chaise/chaise/formats/TermTokenizer" "NAME_STARTS" "[I" (.ref na)) (V_na : Arv Z h0 na k .int (28 : Int32) own_ns (.int (0 : Int32))) :
    MetFree l x (head1 (Jvm.Cond.code x code maxLocals ret :: ws) room_1) (fun a U => a = #[(.int p1)] ∧ Z.Warmed39 U.vm ∧ U.heap = h0) (fun _ _ _ _ _ => True) (fun _ U o U' => ∃ v L, o = .returned v ∧ Q0 Z p1 na k h0 n0 v U'.heap L ∧ FrameEnd U o U' L room_1.cells room_1.slots) := by
  refine MetFree.of_bodySF (plainFor_of_name pn_0) hisR ?_
  intro p e s m args below meth c s₁ Bd hml0 hP hK
  obtain ⟨rfl, hZ, hh⟩ := hP
  have hx := Bd.exec
  have hby := Bd.bytes
  have hml : c.maxLocals = 1 := hml0
  have hown : s.vm.findClass "com/example/chaise/chaise/formats/TermTokenizerIsNameStartPinLaw" = some m.cls := findClass_of_methodNamed Bd.named
  have hnm := (name_of_methodNamed Bd.named Bd.method).1
  have X0 : Stand p l e room_1 s m #[(.int p1)] below meth c s₁ [] 0 0 := Stand.of_body Bd
  have e0 : s₁.heap = h0 := by rw [← hh, Bd.state]; rfl
  have N0 := Fr.nil n0
  show Goes p e s below (fun v h L => Q0 Z p1 na k h0 n0 v h L) room_1.cells room_1.slots (s₁.setTop (entryFrame m #[(.int p1)] maxLocals))
  refine Goes.st (U' := s₁.setTop (mkF m 0 #[.val (.int p1)] [])) (fun t k => castTop (ef_rm0 m p1) k) ?_
  refine Goes.st (U' := s₁.setTop (mkF m 1 #[.val (.int p1)] [(.int p1)])) (fun t k => XS.iloadN X0.here hx rfl (hb hby at_0) rfl k) ?_
  obtain ⟨_, _, ⟨T1, L1, k1, n1⟩, -, X1, ⟨Lc1, hQ1, l1, y1, z1⟩, st1⟩ := Jvm.LawKit.callS X0 hx (y := (⟨"com/example/chaise/chaise/formats/TermTokenizerIsNameStartPinLaw", "check", "(I)Z"⟩ : MethodName)) hown (mvT hZ (hw _ (List.mem_of_getElem? (i := 0) rfl))) (mvT hZ (hw _ (List.mem_of_getElem? (i := 1) rfl))) (mvT hZ (hw _ (List.mem_of_getElem? (i := 2) rfl))) (mvT hZ (hw _ (List.mem_of_getElem? (i := 3) rfl))) (by decide) (backOf (W := 0) (rm1 l Z a0 hw [] p1 na k h0 n0 Z0 (S_NAME_STARTS) (V_na)) hZ (hw _ (List.mem_of_getElem? (i := 3) rfl)) (hw _ (List.mem_of_getElem? (i := 2) rfl)) (by decide) (by decide)) (g := (mkF m 1 #[.val (.int p1)] [(.int p1)])) rfl (by rw [hml]; rfl) (argsL := [(.int p1)]) (rest := []) (lenOf pd_1 rfl) rfl (by show 2 * 0 + _ ≤ _; exact Nat.le_of_eq rfl) (hb hby at_1) (fun _ _ => ⟨rfl, e0, (by decide : 0 + 0 ≤ _), (by decide : 0 + 0 ≤ _)⟩)
  dsimp only [Pt.U, Pt.locs, Pt.cells, Pt.slots] at X1 l1 y1 z1 st1 hQ1
  subst l1 y1 z1
  obtain ⟨rfl, N1q, e1⟩ := hQ1
  have N1 := Fr.app N0 N1q
  refine Goes.st (U' := T1.setTop (mkF m 4 #[.val (.int p1)] [(.int (1 : Int32))])) st1 ?_
  refine Goes.st (U' := T1.setTop (mkF m 7 #[.val (.int p1)] [])) (fun t k => XS.ifNo X1.here hx rfl (hb hby at_4) rfl ((if0 _ _).trans (feq (by decide : ¬ ((1 : Int32) = (0 : Int32)))).1) k) ?_
  refine Goes.st (U' := T1.setTop (mkF m 8 #[.val (.int p1)] [(.int p1)])) (fun t k => XS.iloadN X1.here hx rfl (hb hby at_7) rfl k) ?_
  refine Goes.st (U' := T1.setTop (mkF m 10 #[.val (.int p1)] [(.int (65535 : Int32)), (.int p1)])) (fun t k => X1.ldcInt hx hown (mvT hZ (hw _ (List.mem_of_getElem? (i := 23) rfl))) (g := (mkF m 8 #[.val (.int p1)] [(.int p1)])) rfl (hb hby at_8) t k) ?_
  refine Goes.st (U' := T1.setTop (mkF m 11 #[.val (.int p1)] [(.int (p1 &&& (65535 : Int32)))])) (fun t k => XS.iand X1.here hx rfl (hb hby at_10) rfl k) ?_
  obtain ⟨_, _, ⟨T2, L2, k2, n2⟩, -, X2, ⟨Lc2, hQ2, l2, y2, z2⟩, st2⟩ := Jvm.LawKit.callS X1 hx (y := (⟨"com/example/chaise/chaise/formats/TermTokenizerIsNameStartPinLaw", "check", "(I)Z"⟩ : MethodName)) hown (mvT hZ (hw _ (List.mem_of_getElem? (i := 0) rfl))) (mvT hZ (hw _ (List.mem_of_getElem? (i := 1) rfl))) (mvT hZ (hw _ (List.mem_of_getElem? (i := 2) rfl))) (mvT hZ (hw _ (List.mem_of_getElem? (i := 3) rfl))) (by decide) (backOf (W := 0) (rm1 l Z a0 hw [] (p1 &&& (65535 : Int32)) na k h0 n0 Z0 (S_NAME_STARTS) (V_na)) hZ (hw _ (List.mem_of_getElem? (i := 3) rfl)) (hw _ (List.mem_of_getElem? (i := 2) rfl)) (by decide) (by decide)) (g := (mkF m 11 #[.val (.int p1)] [(.int (p1 &&& (65535 : Int32)))])) rfl (by rw [hml]; rfl) (argsL := [(.int (p1 &&& (65535 : Int32)))]) (rest := []) (lenOf pd_1 rfl) rfl (by show 2 * 0 + _ ≤ _; exact Nat.le_of_eq rfl) (hb hby at_11) (fun _ _ => ⟨rfl, e1, (by decide : 0 + 0 ≤ _), (by decide : 0 + 0 ≤ _)⟩)
  dsimp only [Pt.U, Pt.locs, Pt.cells, Pt.slots] at X2 l2 y2 z2 st2 hQ2
  subst l2 y2 z2
  obtain ⟨rfl, N2q, e2⟩ := hQ2
  have N2 := Fr.app N1 N2q
  refine Goes.st (U' := T2.setTop (mkF m 14 #[.val (.int p1)] [(.int (1 : Int32))])) st2 ?_
  refine Goes.st (U' := T2.setTop (mkF m 17 #[.val (.int p1)] [])) (fun t k => XS.ifNo X2.here hx rfl (hb hby at_14) rfl ((if0 _ _).trans (feq (by decide : ¬ ((1 : Int32) = (0 : Int32)))).1) k) ?_
  refine Goes.st (U' := T2.setTop (mkF m 18 #[.val (.int p1)] [(.int p1)])) (fun t k => XS.iloadN X2.here hx rfl (hb hby at_17) rfl k) ?_
  refine Goes.st (U' := T2.setTop (mkF m 20 #[.val (.int p1)] [(.int (1048575 : Int32)), (.int p1)])) (fun t k => X2.ldcInt hx hown (mvT hZ (hw _ (List.mem_of_getElem? (i := 24) rfl))) (g := (mkF m 18 #[.val (.int p1)] [(.int p1)])) rfl (hb hby at_18) t k) ?_
  refine Goes.st (U' := T2.setTop (mkF m 21 #[.val (.int p1)] [(.int (p1 &&& (1048575 : Int32)))])) (fun t k => XS.iand X2.here hx rfl (hb hby at_20) rfl k) ?_
  obtain ⟨_, _, ⟨T3, L3, k3, n3⟩, -, X3, ⟨Lc3, hQ3, l3, y3, z3⟩, st3⟩ := Jvm.LawKit.callS X2 hx (y := (⟨"com/example/chaise/chaise/formats/TermTokenizerIsNameStartPinLaw", "check", "(I)Z"⟩ : MethodName)) hown (mvT hZ (hw _ (List.mem_of_getElem? (i := 0) rfl))) (mvT hZ (hw _ (List.mem_of_getElem? (i := 1) rfl))) (mvT hZ (hw _ (List.mem_of_getElem? (i := 2) rfl))) (mvT hZ (hw _ (List.mem_of_getElem? (i := 3) rfl))) (by decide) (backOf (W := 0) (rm1 l Z a0 hw [] (p1 &&& (1048575 : Int32)) na k h0 n0 Z0 (S_NAME_STARTS) (V_na)) hZ (hw _ (List.mem_of_getElem? (i := 3) rfl)) (hw _ (List.mem_of_getElem? (i := 2) rfl)) (by decide) (by decide)) (g := (mkF m 21 #[.val (.int p1)] [(.int (p1 &&& (1048575 : Int32)))])) rfl (by rw [hml]; rfl) (argsL := [(.int (p1 &&& (1048575 : Int32)))]) (rest := []) (lenOf pd_1 rfl) rfl (by show 2 * 0 + _ ≤ _; exact Nat.le_of_eq rfl) (hb hby at_21) (fun _ _ => ⟨rfl, e2, (by decide : 0 + 0 ≤ _), (by decide : 0 + 0 ≤ _)⟩)
  dsimp only [Pt.U, Pt.locs, Pt.cells, Pt.slots] at X3 l3 y3 z3 st3 hQ3
  subst l3 y3 z3
  obtain ⟨rfl, N3q, e3⟩ := hQ3
  have N3 := Fr.app N2 N3q
  refine Goes.st (U' := T3.setTop (mkF m 24 #[.val (.int p1)] [(.int (1 : Int32))])) st3 ?_
  refine Goes.st (U' := T3.setTop (mkF m 27 #[.val (.int p1)] [])) (fun t k => XS.ifNo X3.here hx rfl (hb hby at_24) rfl ((if0 _ _).trans (feq (by decide : ¬ ((1 : Int32) = (0 : Int32)))).1) k) ?_
  refine Goes.st (U' := T3.setTop (mkF m 28 #[.val (.int p1)] [(.int (1 : Int32))])) (fun t k => XS.iconst X3.here hx rfl (hb hby at_27) k) ?_
  refine Goes.st (U' := T3.setTop (mkF m 32 #[.val (.int p1)] [(.int (1 : Int32))])) (fun t k => XS.goto X3.here hx rfl (pc0 := 28) (pc' := 32) rfl (hb hby at_28) (by decide) (by decide) k) ?_
  refine Goes.retZ X3 hx (BodyLoose.notSynchronized Bd) Bd.returns (hb hby at_32) rfl (by decide) (by decide) ?_
  show Q0 Z p1 na k h0 n0 _ T3.heap _
  rw [e3]
  exact ⟨rfl, N3⟩
theorem own_eqi {args : Array Value} {s : State} {t : Term} {x : Value} {z : Int32} (ha : t.eval args s none [] s = some x) (h : (Cond.eq t (Term.int z)).value args s none s [] = some true) : x = .int z := by
  cases x <;> simp [Cond.value, ha, Term.eval] at h
  rw [h]
theorem own_len {args : Array Value} {s : State} {t : Term} {a : Addr} {cl : Cell} {z : Int32} (ev : t.eval args s none [] s = some (.ref a)) (hal : s.arrayAt? a = some cl) (h : (Cond.eq (Term.length t) (Term.int z)).value args s none s [] = some true) : cl.slots.size = z.toNatClampNeg := by
  by_cases hs : cl.slots.size < 2 ^ 31
  · have q := own_eqi (len_f ev hal hs) h
    have q2 : cl.slots.size.toInt32 = z := by injection q
    rw [← q2]
    have q3 := len_toInt hs
    simp only [Int32.toNatClampNeg, q3]
    rfl
  · obtain ⟨x, y, e1, -, -, -⟩ := cmp_v (Or.inl h)
    simp [Term.eval, ev, hal] at e1
    omega
theorem own_elem {args : Array Value} {s : State} {t : Term} {a : Addr} {cl : Cell} {i z : Int32} {k : Nat} (ev : t.eval args s none [] s = some (.ref a)) (hc : s.heap[a]? = some cl) (hk : i.toNatClampNeg = k) (h : (Cond.eq (Term.elem t (Term.int i)) (Term.int z)).value args s none s [] = some true) : cl.slots[k]? = some (.int z) := by
  obtain ⟨x, y, e1, -, -, -⟩ := cmp_v (Or.inl h)
  have e := own_eqi e1 h
  subst e
  have q := elem_in e1 ev (Term.int_eval i) hc
  rw [hk] at q
  exact q.2
set_option maxRecDepth 65536 in
set_option maxHeartbeats 40000000 in
theorem comes_1 {Post : Tables → Env → Array Value → State → Outcome → State → Prop} (hpost : ∀ tb e args s v u, (limb_1_1.after args s (.returned v) u = true ∧ limb_1_2.after args s (.returned v) u = true ∧ True) → FrameEnd s (.returned v) u (Jvm.fieldLocs frame_1_writes args s ++ Jvm.arrayLocs frame_1_arrays args s ++ Jvm.staticLocs frame_1_statics s) 0 0 → Post tb e args s (.returned v) u) :
    ArmFor flags0 classFile x code maxLocals ret World_1 tables_1 room_1 Calls_1 rest_1 Pre_1 Post := by
  intro l hfl _ _ p e ha hc hk s m args below hf hA hF happ hP
  obtain ⟨hcalls, hrest, hpre⟩ := hP
  obtain ⟨-, -, -, hnamed, -, -, -, hat⟩ := (Spec.applies_iff hf).mp happ
  obtain ⟨hg, hn⟩ := and_e (Cond.before_iff.mp (show (Jvm.Cond.and given_1 narrow_1).before args s = true from hpre))
  obtain ⟨gg1, gg2⟩ := and_e hg
  obtain ⟨w0, rfl⟩ : ∃ w0 : Value, args = #[w0] := by
    have hs : args.size = 1 := by simpa [Cond.value, given_1] using gg1
    obtain ⟨L⟩ := args
    match L, hs with
    | [w0], _ => exact ⟨w0, rfl⟩
  have hw := fun d (hd : d ∈ tables_1) => atoms_spec (ws := Jvm.Cond.code x code maxLocals ret :: tables_1) hat d (List.mem_cons_of_mem _ hd)
  obtain ⟨i0, ei0⟩ := is_v gg2
  obtain rfl : w0 = (.int i0) := Option.some.inj ei0
  have hfit : Fit s := fun {y c} hc i hi => by
    obtain ⟨ha, rfl⟩ := Array.getElem?_eq_some_iff.mp hc
    have q := List.all_eq_true.mp ((Array.all_eq_true_iff_forall_mem.mp hF) _ (Array.getElem_mem ha)) i (List.mem_range.mpr hi)
    simpa [Array.getElem?_eq_getElem hi] using q
  obtain ⟨k0, r0⟩ := and_e hn
  obtain ⟨na, evN⟩ := arr_v k0
  obtain ⟨cl, AN⟩ := Arr.start evN k0
  have SN := Sta.start evN (Or.inr ⟨hw _ (List.mem_of_getElem? (i := 6) rfl), hw _ (List.mem_of_getElem? (i := 9) rfl)⟩)
  obtain ⟨kl, r1⟩ := and_e r0
  obtain ⟨k1, r2⟩ := and_e r1
  obtain ⟨k2, r3⟩ := and_e r2
  obtain ⟨k3, r4⟩ := and_e r3
  obtain ⟨k4, r5⟩ := and_e r4
  obtain ⟨k5, r6⟩ := and_e r5
  obtain ⟨k6, r7⟩ := and_e r6
  obtain ⟨k7, r8⟩ := and_e r7
  obtain ⟨k8, r9⟩ := and_e r8
  obtain ⟨k9, r10⟩ := and_e r9
  obtain ⟨k10, r11⟩ := and_e r10
  obtain ⟨k11, r12⟩ := and_e r11
  obtain ⟨k12, r13⟩ := and_e r12
  obtain ⟨k13, r14⟩ := and_e r13
  obtain ⟨k14, r15⟩ := and_e r14
  obtain ⟨k15, r16⟩ := and_e r15
  obtain ⟨k16, r17⟩ := and_e r16
  obtain ⟨k17, r18⟩ := and_e r17
  obtain ⟨k18, r19⟩ := and_e r18
  obtain ⟨k19, r20⟩ := and_e r19
  obtain ⟨k20, r21⟩ := and_e r20
  obtain ⟨k21, r22⟩ := and_e r21
  obtain ⟨k22, r23⟩ := and_e r22
  obtain ⟨k23, r24⟩ := and_e r23
  obtain ⟨k24, r25⟩ := and_e r24
  obtain ⟨k25, r26⟩ := and_e r25
  obtain ⟨k26, r27⟩ := and_e r26
  obtain ⟨k27, r28⟩ := and_e r27
  have k28 := r28
  have hal := AN.fin (Vm.Alike.refl _)
  have hlen : cl.slots.size = 28 := own_len evN hal kl
  have c0 : cl.slots[0]? = some (.int (65 : Int32)) := own_elem evN AN.1 rfl k1
  have c1 : cl.slots[1]? = some (.int (90 : Int32)) := own_elem evN AN.1 rfl k2
  have c2 : cl.slots[2]? = some (.int (97 : Int32)) := own_elem evN AN.1 rfl k3
  have c3 : cl.slots[3]? = some (.int (122 : Int32)) := own_elem evN AN.1 rfl k4
  have c4 : cl.slots[4]? = some (.int (192 : Int32)) := own_elem evN AN.1 rfl k5
  have c5 : cl.slots[5]? = some (.int (214 : Int32)) := own_elem evN AN.1 rfl k6
  have c6 : cl.slots[6]? = some (.int (216 : Int32)) := own_elem evN AN.1 rfl k7
  have c7 : cl.slots[7]? = some (.int (246 : Int32)) := own_elem evN AN.1 rfl k8
  have c8 : cl.slots[8]? = some (.int (248 : Int32)) := own_elem evN AN.1 rfl k9
  have c9 : cl.slots[9]? = some (.int (767 : Int32)) := own_elem evN AN.1 rfl k10
  have c10 : cl.slots[10]? = some (.int (880 : Int32)) := own_elem evN AN.1 rfl k11
  have c11 : cl.slots[11]? = some (.int (893 : Int32)) := own_elem evN AN.1 rfl k12
  have c12 : cl.slots[12]? = some (.int (895 : Int32)) := own_elem evN AN.1 rfl k13
  have c13 : cl.slots[13]? = some (.int (8191 : Int32)) := own_elem evN AN.1 rfl k14
  have c14 : cl.slots[14]? = some (.int (8204 : Int32)) := own_elem evN AN.1 rfl k15
  have c15 : cl.slots[15]? = some (.int (8205 : Int32)) := own_elem evN AN.1 rfl k16
  have c16 : cl.slots[16]? = some (.int (8304 : Int32)) := own_elem evN AN.1 rfl k17
  have c17 : cl.slots[17]? = some (.int (8591 : Int32)) := own_elem evN AN.1 rfl k18
  have c18 : cl.slots[18]? = some (.int (11264 : Int32)) := own_elem evN AN.1 rfl k19
  have c19 : cl.slots[19]? = some (.int (12271 : Int32)) := own_elem evN AN.1 rfl k20
  have c20 : cl.slots[20]? = some (.int (12289 : Int32)) := own_elem evN AN.1 rfl k21
  have c21 : cl.slots[21]? = some (.int (55295 : Int32)) := own_elem evN AN.1 rfl k22
  have c22 : cl.slots[22]? = some (.int (63744 : Int32)) := own_elem evN AN.1 rfl k23
  have c23 : cl.slots[23]? = some (.int (64975 : Int32)) := own_elem evN AN.1 rfl k24
  have c24 : cl.slots[24]? = some (.int (65008 : Int32)) := own_elem evN AN.1 rfl k25
  have c25 : cl.slots[25]? = some (.int (65533 : Int32)) := own_elem evN AN.1 rfl k26
  have c26 : cl.slots[26]? = some (.int (65536 : Int32)) := own_elem evN AN.1 rfl k27
  have c27 : cl.slots[27]? = some (.int (983039 : Int32)) := own_elem evN AN.1 rfl k28
  have VN : Arv s s.heap na cl.cls .int (28 : Int32) own_ns (.int (0 : Int32)) := Arv.start hfit AN (by rw [hlen]; decide) (by rw [hlen]; rfl) (by decide) rfl (by simp only [own_ns, HasL]; exact ⟨c0, c1, c2, c3, c4, c5, c6, c7, c8, c9, c10, c11, c12, c13, c14, c15, c16, c17, c18, c19, c20, c21, c22, c23, c24, c25, c26, c27, trivial⟩)
  obtain ⟨n, o, h1, h2, h3, v, L, rfl, hQ, hq⟩ := rm0 l s _ hw tables_1 i0 na cl.cls s.heap s.heap.size (Nat.le_refl _) SN VN p e ha hc hk s m _ below hf ((Spec.applies_iff_loose hf).mp happ).1 ⟨rfl, State.Warmed39.refl s, rfl⟩ trivial
  obtain ⟨rfl, N⟩ := hQ
  exact ⟨n, _, h1, h2, h3, hpost _ _ _ _ _ _ ⟨Cond.after_iff.mpr rfl, Cond.after_iff.mpr (eq_i res_at (Term.int_eval (1)) rfl), trivial⟩ ⟨hq.1, hq.2.1, (hq.2.2.sift fun y hy => Or.inr (N y hy)).mono (by decide) (by decide)⟩⟩
theorem main_1_1 : Claimed_1_1 := comes_1 fun _ _ _ _ _ _ h hF => ⟨h.1, hF⟩
theorem main_1_2 : Claimed_1_2 := comes_1 fun _ _ _ _ _ _ h hF => ⟨h.2.1, hF⟩
end Jvm.Pilot.@@N@@
namespace Jvm.Pilot.@@N@@
open Jvm Jvm.ClassFile Sem Op Lib Jvm.Free Jvm.Stand Jvm.Pilot.@@N@@.Jvm.D
/-! MADE BY PROGRAM (witnessworld.py) out of the Statement's table words and the real class files: 9 classes; the members and pool entries that the words name. The judged class is class 1, her method 4. -/
namespace start1
open Jvm.ClassFile
def u (s : String) : CpInfo := .utf8 (stringToUtf16 s)
/-- a pool by its gaps: so many unusable entries, then the entry; so many at the end -/
def gap : Nat → List CpInfo → List CpInfo
  | 0, r => r
  | n + 1, r => .unusable :: gap n r
def poolList (es : List (Nat × CpInfo)) (last : Nat) : List CpInfo := es.foldr (fun e r => gap e.1 (e.2 :: r)) (gap last [])
def pool (es : List (Nat × CpInfo)) (last : Nat) : Array CpInfo := ⟨poolList es last⟩
def fileOf (pool : Array CpInfo) (this : Nat) (attrs : Array Attribute := #[]) (ms : Array MethodInfo := #[]) (fl : Nat := 33) (sup : Nat := 0) (ifs : Array Nat := #[]) (fds : Array FieldInfo := #[]) : ClassFile where
  minorVersion := 0
  majorVersion := 65
  constantPool := pool
  accessFlags := fl
  thisClass := this
  superClass := sup
  interfaces := ifs
  fields := fds
  methods := ms
  attributes := attrs
def plain (name : String) (sup : Option ClassId) : Class where
  name := name
  kind := .ordinary
  loader := none
  accessFlags := 33
  super := sup
  interfaces := #[]
  cf := none
  fields := #[]
  methods := #[]
  instanceTypes := #[]
  staticTypes := #[]
  resolved := #[]
  callSites := []
  init := .initialized
  statics := none
  mirror := none

def pool0 : Array CpInfo := pool [(5, u "<init>"), (0, u "()V"), (1, .class_ 10), (1, u "java/lang/Object")] 113

def k0m0 : Method := { name := "<init>", desc := "()V", sig := { parameters := [], returnType := none }, accessFlags := 1, code := none }
/-- java/lang/Object -/
def k0 : Class := { plain "java/lang/Object" none with
  accessFlags := 33
  interfaces := #[]
  cf := some (fileOf pool0 8 #[] #[{ accessFlags := 1, nameIndex := 5, descriptorIndex := 6, attributes := #[] }] 33 0 #[] #[])
  fields := #[]
  methods := #[k0m0]
  instanceTypes := #[]
  staticTypes := #[]
  resolved := Array.replicate 124 none
  statics := none }

def pool1 : Array CpInfo := pool [(2, .class_ 4), (1, u "java/lang/Object"), (0, u "<init>"), (0, u "()V"), (0, .methodref 8 9), (0, .class_ 10), (0, .nameAndType 11 12), (0, u "com/example/chaise/chaise/formats/TermTokenizerIsNameStartPinLaw"), (0, u "in"), (0, u "(III)Z"), (0, .integer 55295), (0, .integer 63744), (0, .integer 64975), (0, .integer 65008), (0, .integer 65533), (0, .integer 65536), (0, .integer 983039), (0, .methodref 21 22), (0, .class_ 23), (0, .nameAndType 24 25), (0, u "com/example/chaise/chaise/formats/TermTokenizer"), (0, u "isNameStart"), (0, u "(I)Z"), (0, .methodref 8 27), (0, .nameAndType 28 25), (0, u "reference"), (0, .methodref 8 30), (0, .nameAndType 31 25), (0, u "check"), (0, .integer 65535), (0, .integer 1048575), (3, u "law")] 2

def k1m0 : Method := { name := "<init>", desc := "()V", sig := { parameters := [], returnType := none }, accessFlags := 1, code := none }
def k1c1 : Code := { maxStack := 2, maxLocals := 3, code := method_2_code, exceptionTable := #[], attributes := #[] }
def k1m1 : Method := { name := "in", desc := "(III)Z", sig := { parameters := [.int, .int, .int], returnType := some .boolean }, accessFlags := 10, code := some k1c1 }
def k1c2 : Code := { maxStack := 3, maxLocals := 1, code := method_3_code, exceptionTable := #[], attributes := #[] }
def k1m2 : Method := { name := "reference", desc := "(I)Z", sig := { parameters := [.int], returnType := some .boolean }, accessFlags := 10, code := some k1c2 }
def k1c3 : Code := { maxStack := 2, maxLocals := 1, code := method_4_code, exceptionTable := #[], attributes := #[] }
def k1m3 : Method := { name := "check", desc := "(I)Z", sig := { parameters := [.int], returnType := some .boolean }, accessFlags := 10, code := some k1c3 }
def k1c4 : Code := { maxStack := 2, maxLocals := 1, code := code, exceptionTable := #[], attributes := #[] }
def k1m4 : Method := { name := "law", desc := "(I)Z", sig := { parameters := [.int], returnType := some .boolean }, accessFlags := 9, code := some k1c4 }
/-- com/example/chaise/chaise/formats/TermTokenizerIsNameStartPinLaw -/
def k1 : Class := { plain "com/example/chaise/chaise/formats/TermTokenizerIsNameStartPinLaw" (some 0) with
  accessFlags := 49
  interfaces := #[]
  cf := some (fileOf pool1 8 #[] #[{ accessFlags := 1, nameIndex := 5, descriptorIndex := 6, attributes := #[] }, { accessFlags := 10, nameIndex := 11, descriptorIndex := 12, attributes := #[] }, { accessFlags := 10, nameIndex := 28, descriptorIndex := 25, attributes := #[] }, { accessFlags := 10, nameIndex := 31, descriptorIndex := 25, attributes := #[] }, { accessFlags := 9, nameIndex := 37, descriptorIndex := 25, attributes := #[] }] 49 2 #[] #[])
  fields := #[]
  methods := #[k1m0, k1m1, k1m2, k1m3, k1m4]
  instanceTypes := #[]
  staticTypes := #[]
  resolved := Array.replicate 40 none
  statics := none }

def pool2 : Array CpInfo := pool [(2, .class_ 4), (1, u "java/lang/Object"), (3, .class_ 10), (1, u "com/example/chaise/chaise/formats/TermTokenizer"), (0, u "source"), (0, u "Lcom/example/chaise/chaise/formats/SourceText;"), (2, u "text"), (0, u "Ljava/lang/String;"), (2, u "textStart"), (0, u "J"), (2, u "textEnd"), (14, u "line"), (0, u "I"), (2, u "column"), (5, .fieldref 8 49), (0, .nameAndType 50 51), (0, u "NAME_STARTS"), (0, u "[I"), (2, u "isNameStart"), (0, u "(I)Z"), (39, u "DIGITS"), (0, u "Lcom/example/chaise/chaise/formats/SourceText$CharClass;"), (6, u "IRI_PART"), (71, u "LITERAL_PART"), (40, u "HEXADECIMAL")] 43

def k2c0 : Code := { maxStack := 4, maxLocals := 3, code := prog_142_method_9_code, exceptionTable := #[], attributes := #[] }
def k2m0 : Method := { name := "isNameStart", desc := "(I)Z", sig := { parameters := [.int], returnType := some .boolean }, accessFlags := 8, code := some k2c0 }
/-- com/example/chaise/chaise/formats/TermTokenizer -/
def k2 : Class := { plain "com/example/chaise/chaise/formats/TermTokenizer" (some 0) with
  accessFlags := 1056
  interfaces := #[]
  cf := some (fileOf pool2 8 #[] #[{ accessFlags := 8, nameIndex := 54, descriptorIndex := 55, attributes := #[] }] 1056 2 #[] #[{ accessFlags := 26, nameIndex := 216, descriptorIndex := 16, attributes := #[] }, { accessFlags := 26, nameIndex := 95, descriptorIndex := 96, attributes := #[] }, { accessFlags := 26, nameIndex := 103, descriptorIndex := 96, attributes := #[] }, { accessFlags := 26, nameIndex := 175, descriptorIndex := 96, attributes := #[] }, { accessFlags := 26, nameIndex := 50, descriptorIndex := 51, attributes := #[] }, { accessFlags := 16, nameIndex := 11, descriptorIndex := 12, attributes := #[] }, { accessFlags := 2, nameIndex := 15, descriptorIndex := 16, attributes := #[] }, { accessFlags := 2, nameIndex := 19, descriptorIndex := 20, attributes := #[] }, { accessFlags := 2, nameIndex := 23, descriptorIndex := 20, attributes := #[] }, { accessFlags := 2, nameIndex := 38, descriptorIndex := 39, attributes := #[] }, { accessFlags := 2, nameIndex := 42, descriptorIndex := 39, attributes := #[] }])
  fields := #[{ name := "HEXADECIMAL", type := (.object "java/lang/String"), accessFlags := 26, slot := 0, constantValue := 0 }, { name := "DIGITS", type := (.object "com/example/chaise/chaise/formats/SourceText$CharClass"), accessFlags := 26, slot := 1, constantValue := 0 }, { name := "IRI_PART", type := (.object "com/example/chaise/chaise/formats/SourceText$CharClass"), accessFlags := 26, slot := 2, constantValue := 0 }, { name := "LITERAL_PART", type := (.object "com/example/chaise/chaise/formats/SourceText$CharClass"), accessFlags := 26, slot := 3, constantValue := 0 }, { name := "NAME_STARTS", type := (.array .int), accessFlags := 26, slot := 4, constantValue := 0 }, { name := "source", type := (.object "com/example/chaise/chaise/formats/SourceText"), accessFlags := 16, slot := 0, constantValue := 0 }, { name := "text", type := (.object "java/lang/String"), accessFlags := 2, slot := 1, constantValue := 0 }, { name := "textStart", type := .long, accessFlags := 2, slot := 2, constantValue := 0 }, { name := "textEnd", type := .long, accessFlags := 2, slot := 3, constantValue := 0 }, { name := "line", type := .int, accessFlags := 2, slot := 4, constantValue := 0 }, { name := "column", type := .int, accessFlags := 2, slot := 5, constantValue := 0 }]
  methods := #[k2m0]
  instanceTypes := #[(.object "com/example/chaise/chaise/formats/SourceText"), (.object "java/lang/String"), .long, .long, .int, .int]
  staticTypes := #[(.object "java/lang/String"), (.object "com/example/chaise/chaise/formats/SourceText$CharClass"), (.object "com/example/chaise/chaise/formats/SourceText$CharClass"), (.object "com/example/chaise/chaise/formats/SourceText$CharClass"), (.array .int)]
  resolved := Array.replicate 260 none
  statics := some 0 }

def pool3 : Array CpInfo := pool [(1, u "java/lang/Cloneable"), (0, .class_ 1), (0, u "java/lang/Object"), (0, .class_ 3)] 3

/-- java/lang/Cloneable -/
def k3 : Class := { plain "java/lang/Cloneable" (some 0) with
  accessFlags := 1537
  interfaces := #[]
  cf := some (fileOf pool3 2 #[] #[] 1537 4 #[] #[])
  fields := #[]
  methods := #[]
  instanceTypes := #[]
  staticTypes := #[]
  resolved := Array.replicate 8 none
  statics := none }

def pool4 : Array CpInfo := pool [(1, u "java/io/Serializable"), (0, .class_ 1), (0, u "java/lang/Object"), (0, .class_ 3)] 3

/-- java/io/Serializable -/
def k4 : Class := { plain "java/io/Serializable" (some 0) with
  accessFlags := 1537
  interfaces := #[]
  cf := some (fileOf pool4 2 #[] #[] 1537 4 #[] #[])
  fields := #[]
  methods := #[]
  instanceTypes := #[]
  staticTypes := #[]
  resolved := Array.replicate 8 none
  statics := none }

/-- the primitive byte -/
def k5 : Class := { plain "byte" none with kind := .primitive 'B', accessFlags := 0x411 }
/-- [B -/
def k6 : Class := { plain "[B" (some 0) with kind := .array 5 .byte, interfaces := #[3, 4], accessFlags := 1041 }

/-- the primitive int -/
def k7 : Class := { plain "int" none with kind := .primitive 'I', accessFlags := 0x411 }
/-- [I -/
def k8 : Class := { plain "[I" (some 0) with kind := .array 7 .int, interfaces := #[3, 4], accessFlags := 1041 }

def heap : Heap := #[{ cls := 2, slots := #[.null, .null, .null, .null, .ref 1], vm := .statics 2 },
  { cls := 8, slots := #[.int 65, .int 90, .int 97, .int 122, .int 192, .int 214, .int 216, .int 246, .int 248, .int 767, .int 880, .int 893, .int 895, .int 8191, .int 8204, .int 8205, .int 8304, .int 8591, .int 11264, .int 12271, .int 12289, .int 55295, .int 63744, .int 64975, .int 65008, .int 65533, .int 65536, .int 983039], vm := .none }]
def classes : Array Class := #[k0, k1, k2, k3, k4, k5, k6, k7, k8]
def interned : List (Array UInt16 × Addr) := []
def slotsUsed : Nat := 33
def theMethod : MethodId := ⟨1, 4⟩
def args0 : Array Value := #[.int 5]
def aboutOver (below : List Frame) : State where
  vm := { classes := classes, interned := interned.toArray }
  heap := heap
  slotsUsed := slotsUsed
  threads := #[{ frames := .invoking theMethod args0 :: below }]
def below0 : List Frame := [.native { method := ⟨0, 0⟩, args := #[] }]
def about1 : State := aboutOver below0
def p0 : Program := .bare "" "" ""
def e0 : Env := launch0.env 0 0 0
theorem w_frames : about1.frames = Frame.invoking theMethod args0 :: below0 := rfl
set_option maxRecDepth 65536 in
theorem w_args : argsFit about1.vm theMethod args0 = true := by decide +kernel
set_option maxRecDepth 65536 in
theorem w_heap : heapFits about1 = true := by decide +kernel
set_option maxRecDepth 65536 in
theorem w_runnable : about1.curStatus? = some .runnable := by decide +kernel
set_option maxRecDepth 65536 in
theorem w_alone : about1.alone = true := by decide +kernel
set_option maxRecDepth 65536 in
theorem w_named : about1.methodNamed? x = some theMethod := by decide +kernel
set_option maxRecDepth 65536 in
theorem w_hears : about1.hears theMethod below0 = true := by decide +kernel
set_option maxRecDepth 65536 in
theorem w_ripe : about1.ripe theMethod args0 below0 = true := by decide +kernel
theorem w_running : about1.status = .running := rfl
set_option maxRecDepth 65536 in
theorem w_room : about1.hasRoom e0.platform room_1 = true :=
  launch0.hasRoom_least _ room_1 (by decide +kernel) (by decide +kernel) (by decide +kernel) (by decide +kernel) (by decide +kernel) (by decide +kernel)
theorem allAtoms_all (ts : List Jvm.Cond) (a : Array Jvm.Value) (st : Jvm.State) : (allAtoms ts).before a st = ts.all (fun c => c.before a st) := by
  induction ts with
  | nil => rfl
  | cons c t ih =>
    show (Jvm.Cond.and c (allAtoms t)).before a st = _
    rw [Jvm.Cond.before_and, ih, List.all_cons]
def words1 : List Jvm.Cond := Jvm.Cond.code x code maxLocals ret :: tables_1
/-- a 'code' word, met by the world's own term for the bytes: nothing is compared byte by byte -/
theorem code_word {y : MethodName} {bytes : ByteArray} {mx : Nat} {rt : Option FieldType} {a : Array Value} {s : State} {m : MethodId} {meth : Method} {c : Code} (h1 : s.methodNamed? y = some m) (h2 : s.vm.method? m = some meth) (h3 : meth.code = some c) (h4 : c.code = bytes)
    (h5 : (c.maxLocals == mx && c.exceptionTable.isEmpty && decide (c.maxStack ≤ mostOperands) && decide (meth.sig.returnType = rt) && !meth.locks && decide (parseMethodDescriptor y.desc = some meth.sig)) = true) : (Jvm.Cond.code y bytes mx rt).before a s = true := by
  simp only [Bool.and_eq_true, beq_iff_eq, Bool.not_eq_true', decide_eq_true_eq] at h5
  obtain ⟨⟨⟨⟨⟨g1, g2⟩, g3⟩, g4⟩, g5⟩, g6⟩ := h5
  simp [Cond.before, Cond.holds, Cond.value, h1, h2, h3, h4, g1, g2, g3, g4, g5, g6]
def isCode : Jvm.Cond → Bool
  | .code _ _ _ _ => true
  | _ => false
theorem all_split {L : List Jvm.Cond} {P : Jvm.Cond → Bool} (h1 : L.all (fun c => isCode c || P c) = true) (h2 : ∀ c ∈ L.filter isCode, P c = true) : L.all P = true := by
  refine List.all_eq_true.mpr fun c hc => ?_
  have h := List.all_eq_true.mp h1 c hc
  rcases Bool.eq_false_or_eq_true (isCode c) with hi | hi
  · exact h2 c (List.mem_filter.mpr ⟨hc, hi⟩)
  · simpa [hi] using h
set_option maxRecDepth 65536 in
theorem w_c0 : (Jvm.Cond.code x code maxLocals ret).before args0 about1 = true := code_word (m := ⟨1, 4⟩) (meth := k1m4) (c := k1c4) (by decide +kernel) rfl rfl rfl (by decide +kernel)
set_option maxRecDepth 65536 in
theorem w_c1 : (Jvm.Cond.code ({ cls := "com/example/chaise/chaise/formats/TermTokenizerIsNameStartPinLaw", name := "check", desc := "(I)Z" } : Jvm.MethodName) method_4_code (1 : Nat) (Option.some Jvm.ClassFile.FieldType.boolean)).before args0 about1 = true := code_word (m := ⟨1, 3⟩) (meth := k1m3) (c := k1c3) (by decide +kernel) rfl rfl rfl (by decide +kernel)
set_option maxRecDepth 65536 in
theorem w_c2 : (Jvm.Cond.code ({ cls := "com/example/chaise/chaise/formats/TermTokenizer", name := "isNameStart", desc := "(I)Z" } : Jvm.MethodName) prog_142_method_9_code (3 : Nat) (Option.some Jvm.ClassFile.FieldType.boolean)).before args0 about1 = true := code_word (m := ⟨2, 0⟩) (meth := k2m0) (c := k2c0) (by decide +kernel) rfl rfl rfl (by decide +kernel)
set_option maxRecDepth 65536 in
theorem w_c3 : (Jvm.Cond.code ({ cls := "com/example/chaise/chaise/formats/TermTokenizerIsNameStartPinLaw", name := "reference", desc := "(I)Z" } : Jvm.MethodName) method_3_code (1 : Nat) (Option.some Jvm.ClassFile.FieldType.boolean)).before args0 about1 = true := code_word (m := ⟨1, 2⟩) (meth := k1m2) (c := k1c2) (by decide +kernel) rfl rfl rfl (by decide +kernel)
set_option maxRecDepth 65536 in
theorem w_c4 : (Jvm.Cond.code ({ cls := "com/example/chaise/chaise/formats/TermTokenizerIsNameStartPinLaw", name := "in", desc := "(III)Z" } : Jvm.MethodName) method_2_code (3 : Nat) (Option.some Jvm.ClassFile.FieldType.boolean)).before args0 about1 = true := code_word (m := ⟨1, 1⟩) (meth := k1m1) (c := k1c1) (by decide +kernel) rfl rfl rfl (by decide +kernel)
def codes1 : List Jvm.Cond := [Jvm.Cond.code x code maxLocals ret, Jvm.Cond.code ({ cls := "com/example/chaise/chaise/formats/TermTokenizerIsNameStartPinLaw", name := "check", desc := "(I)Z" } : Jvm.MethodName) method_4_code (1 : Nat) (Option.some Jvm.ClassFile.FieldType.boolean), Jvm.Cond.code ({ cls := "com/example/chaise/chaise/formats/TermTokenizer", name := "isNameStart", desc := "(I)Z" } : Jvm.MethodName) prog_142_method_9_code (3 : Nat) (Option.some Jvm.ClassFile.FieldType.boolean), Jvm.Cond.code ({ cls := "com/example/chaise/chaise/formats/TermTokenizerIsNameStartPinLaw", name := "reference", desc := "(I)Z" } : Jvm.MethodName) method_3_code (1 : Nat) (Option.some Jvm.ClassFile.FieldType.boolean), Jvm.Cond.code ({ cls := "com/example/chaise/chaise/formats/TermTokenizerIsNameStartPinLaw", name := "in", desc := "(III)Z" } : Jvm.MethodName) method_2_code (3 : Nat) (Option.some Jvm.ClassFile.FieldType.boolean)]
set_option maxRecDepth 65536 in
theorem codes_eq : words1.filter isCode = codes1 := rfl
theorem w_codes : ∀ c ∈ words1.filter isCode, c.before args0 about1 = true := by
  rw [codes_eq]
  intro c hc
  simp only [codes1, List.mem_cons, List.not_mem_nil, or_false] at hc
  rcases hc with rfl | rfl | rfl | rfl | rfl
  · exact w_c0
  · exact w_c1
  · exact w_c2
  · exact w_c3
  · exact w_c4
set_option maxRecDepth 65536 in
theorem w_t1 : (words1.take 24).all (fun c => isCode c || c.before args0 about1) = true := by decide +kernel
set_option maxRecDepth 65536 in
theorem w_t2 : (words1.drop 24).all (fun c => isCode c || c.before args0 about1) = true := by decide +kernel
theorem w_tables : (allAtoms (Jvm.Cond.code x code maxLocals ret :: tables_1)).before args0 about1 = true := by
  rw [allAtoms_all]
  show words1.all (fun c => c.before args0 about1) = true
  refine all_split ?_ w_codes
  rw [← List.take_append_drop 24 words1, List.all_append, w_t1, w_t2]
  rfl
set_option maxRecDepth 65536 in
theorem w_case : (Jvm.Cond.and given_1 narrow_1).before args0 about1 = true := by decide +kernel
theorem w_applies : (headSpec (Jvm.Cond.code x code maxLocals ret :: tables_1) room_1).applies x e0.platform about1 = true :=
  (Spec.applies_iff w_frames).mpr ⟨w_running, w_runnable, w_alone, w_named, w_hears, w_ripe, w_room, w_tables⟩
theorem atStart : AtStart classFile x code maxLocals ret World_1 tables_1 room_1 Calls_1 rest_1 Pre_1 launch0 p0 e0 about1 theMethod args0 below0 :=
  ⟨lists_1, trivial, launch0.admits_env _ _ _, launch0.least_env, fairChoices_fair.cas, fairChoices_fair.clock, w_frames, w_args, w_heap, w_applies, trivial, trivial, w_case⟩
end start1
theorem witness_1 : WitnessClaimed_1 := ⟨start1.p0, start1.e0, start1.about1, start1.theMethod, start1.args0, start1.below0, start1.atStart⟩
end Jvm.Pilot.@@N@@
