import JvmDerived
import JvmDerived.Pilot.@@N@@Statement
import JvmDerived.Pilot.@@N@@Code
set_option linter.unusedVariables false
set_option linter.unusedSimpArgs false
namespace Jvm.Pilot.@@N@@
open Jvm Jvm.ClassFile Sem Op Lib Jvm.Free Jvm.Stand Jvm.LawKit Jvm.RoadKit Bundle Jvm.Pilot.@@N@@.Jvm.D
/-! OWN PRELUDE: a walk in continuation form: 'Goes .. U': from U on the body comes to its return, with Q -/
section OwnPrelude
variable {p : Program} {l : Launch} {e : Env} {R : Room} {s : State} {m : MethodId} {args : Array Value} {below : List Frame} {meth : Method} {c : Code} {T U U' : State} {locs : List Loc} {cells slots ce sl : Nat} {Q : Option Value → Heap → List Loc → Prop}
def Goes (p : Program) (e : Env) (s : State) (below : List Frame) (Q : Option Value → Heap → List Loc → Prop) (ce sl : Nat) (U : State) : Prop :=
  ∃ t o, Steps p.tables e below U t ∧ t.status = .running ∧ Ended t below o ∧ ∃ v L, o = .returned v ∧ Q v t.heap L ∧ FrameEnd s o t L ce sl
theorem Goes.st (h : ∀ t, Steps p.tables e below U' t → Steps p.tables e below U t) (k : Goes p e s below Q ce sl U') : Goes p e s below Q ce sl U := by
  obtain ⟨t, o, h1, r⟩ := k
  exact ⟨t, o, h t h1, r⟩
theorem Goes.tr (h : Steps p.tables e below U U') (k : Goes p e s below Q ce sl U') : Goes p e s below Q ce sl U := by
  obtain ⟨t, o, h1, r⟩ := k
  exact ⟨t, o, h.trans h1, r⟩
theorem Goes.out (X : Stand p l e R s m args below meth c T locs cells slots) (hlocks : meth.locks = false) {v : Option Value} (hv : meth.sig.returnType = none → v = none) (hc : cells ≤ ce) (hs : slots ≤ sl) (hq : Q v T.heap locs)
    (k : ∀ fs, (∀ (f : JFrame) (acts : List Action), f.method = m → f.locked = none → f.entered = [] → (doReturn e (T.setTop f) acts v).1 = T.setFrames fs) → Steps p.tables e below U (T.setFrames fs)) : Goes p e s below Q ce sl U := by
  obtain ⟨fs, hr, hrun, hended, hW, hsame⟩ := X.leave (v := v) hv hlocks
  exact ⟨_, _, k fs hr, hrun, hended, _, _, rfl, hq, ⟨_, rfl⟩, hW, hsame.mono hc hs⟩
theorem Goes.retI (X : Stand p l e R s m args below meth c T locs cells slots) (hx : p.tables.exec = Jvm.exec) (hlocks : meth.locks = false) {pc : Nat} {Ls : Array Slot} {z : Int32} {rest : List Value} (hret : meth.sig.returnType = some .int) (hd : decode c.code pc = .ok (.ireturn, 1))
    (hc : cells ≤ ce) (hs : slots ≤ sl) (hq : Q (some (.int z)) T.heap locs) : Goes p e s below Q ce sl (T.setTop (mkF m pc Ls (.int z :: rest))) :=
  Goes.out X hlocks (fun h => by rw [hret] at h; cases h) hc hs hq fun fs hl => retOut X hx hret rfl (Or.inl ⟨rfl, Or.inl rfl, _, rfl⟩) hd hl
theorem Goes.retZ (X : Stand p l e R s m args below meth c T locs cells slots) (hx : p.tables.exec = Jvm.exec) (hlocks : meth.locks = false) {pc : Nat} {Ls : Array Slot} {z : Int32} {rest : List Value} (hret : meth.sig.returnType = some .boolean) (hd : decode c.code pc = .ok (.ireturn, 1))
    (hz : z &&& 1 = z) (hc : cells ≤ ce) (hs : slots ≤ sl) (hq : Q (some (.int z)) T.heap locs) : Goes p e s below Q ce sl (T.setTop (mkF m pc Ls (.int z :: rest))) :=
  Goes.out X hlocks (fun h => by rw [hret] at h; cases h) hc hs hq fun fs hl => retOut X hx hret (by show Value.int (z &&& 1) = _; rw [hz]) (Or.inl ⟨rfl, Or.inr (Or.inl rfl), _, rfl⟩) hd hl
theorem Goes.retJ (X : Stand p l e R s m args below meth c T locs cells slots) (hx : p.tables.exec = Jvm.exec) (hlocks : meth.locks = false) {pc : Nat} {Ls : Array Slot} {z : Int64} {rest : List Value} (hret : meth.sig.returnType = some .long) (hd : decode c.code pc = .ok (.lreturn, 1))
    (hc : cells ≤ ce) (hs : slots ≤ sl) (hq : Q (some (.long z)) T.heap locs) : Goes p e s below Q ce sl (T.setTop (mkF m pc Ls (.long z :: rest))) :=
  Goes.out X hlocks (fun h => by rw [hret] at h; cases h) hc hs hq fun fs hl => retOut X hx hret rfl (Or.inr (Or.inl ⟨rfl, rfl, _, rfl⟩)) hd hl
theorem Goes.retA (X : Stand p l e R s m args below meth c T locs cells slots) (hx : p.tables.exec = Jvm.exec) (hlocks : meth.locks = false) {pc : Nat} {Ls : Array Slot} {w : Value} {t : FieldType} {rest : List Value} (hret : meth.sig.returnType = some t) (hd : decode c.code pc = .ok (.areturn, 1))
    (ht : t.isReference = true) (hw : w.isRef = true) (hn : narrow t w = w) (hc : cells ≤ ce) (hs : slots ≤ sl) (hq : Q (some w) T.heap locs) : Goes p e s below Q ce sl (T.setTop (mkF m pc Ls (w :: rest))) :=
  Goes.out X hlocks (fun h => by rw [hret] at h; cases h) hc hs hq fun fs hl => retOut X hx hret hn (Or.inr (Or.inr (Or.inr (Or.inr ⟨rfl, ht, hw⟩)))) hd hl
theorem Goes.retV (X : Stand p l e R s m args below meth c T locs cells slots) (hx : p.tables.exec = Jvm.exec) (hlocks : meth.locks = false) {pc : Nat} {Ls : Array Slot} (hret : meth.sig.returnType = none) (hd : decode c.code pc = .ok (.return_, 1))
    (hc : cells ≤ ce) (hs : slots ≤ sl) (hq : Q none T.heap locs) : Goes p e s below Q ce sl (T.setTop (mkF m pc Ls [])) :=
  Goes.out X hlocks (fun _ => rfl) hc hs hq fun fs hl => X.returnOut hx hret hd hl
/-- a boolean as the machine has it -/
def b2i (b : Bool) : Int32 := if b then 1 else 0
theorem b2i_one (b : Bool) : b2i b &&& 1 = b2i b := by cases b <;> rfl
theorem b2i_t {b : Bool} (h : ¬ b2i b = 0) : b = true := by cases b; exact absurd rfl h; rfl
theorem b2i_f {b : Bool} (h : b2i b = 0) : b = false := by cases b; rfl; exact absurd h (by decide)
theorem Exa_ns {Z : State} {h : Heap} {a : Addr} {C : String} (E : Exa Z h a C) : ∀ cell : Cell, h[a]? = some cell → cell.vm.isStatics = false := fun cell hc => by
  obtain ⟨c1, _, h1, -, -, h4, -⟩ := E
  cases h1.symm.trans hc
  exact h4
theorem Sta_keep {Z : State} {h h' : Heap} {C n d : String} {v : Value} {ws : List Addr} (F : Sta Z h C n d v) (K : Keep h h' ws) (q : ∀ x ∈ ws, ∀ cell : Cell, h[x]? = some cell → cell.vm.isStatics = false) : Sta Z h' C n d v := by
  obtain ⟨cf, i, k, f, st, cell, h1, h2, h3, h4, h5, h6, h7⟩ := F
  exact ⟨cf, i, k, f, st, cell, h1, h2, h3, h4, K.2.1 _ _ h5 (fun y => by have := q _ y _ h5; rw [h6] at this; cases this), h6, h7⟩
theorem own_selp {u : State} {as : Array Value} {y : MethodName} {n : Nat} (hins : (Cond.instantiable y.cls n).before as u = true) (hpriv : u.PrivateAt y) (hinst : (Cond.instanceMethod y).before as u = true) (hy : y.cls ≠ "java/lang/invoke/MethodHandle" ∧ y.cls ≠ "java/lang/invoke/VarHandle") : (Cond.selects y.cls y y).before as u = true := by
  obtain ⟨c, k, hc, hk, -, hniab, -, -⟩ := Cond.instantiable_spec hins
  exact selects_self_of_private hc hk (Bool.or_eq_false_iff.mp hniab).1 hpriv hinst hy
end OwnPrelude

theorem d1_0 : decode prog_140_method_3_code 0 = .ok (.iload_n 0, 1) := by decide +kernel
theorem d1_1 : decode prog_140_method_3_code 1 = .ok (.sipush 128, 3) := by decide +kernel
theorem d1_4 : decode prog_140_method_3_code 4 = .ok (.if_icmp .ge 8, 3) := by decide +kernel
theorem d1_7 : decode prog_140_method_3_code 7 = .ok (.iconst 1, 1) := by decide +kernel
theorem d1_8 : decode prog_140_method_3_code 8 = .ok (.istore_n 1, 1) := by decide +kernel
theorem d1_9 : decode prog_140_method_3_code 9 = .ok (.goto 28, 3) := by decide +kernel
theorem d1_12 : decode prog_140_method_3_code 12 = .ok (.iload_n 0, 1) := by decide +kernel
theorem d1_13 : decode prog_140_method_3_code 13 = .ok (.sipush 2048, 3) := by decide +kernel
theorem d1_16 : decode prog_140_method_3_code 16 = .ok (.if_icmp .ge 8, 3) := by decide +kernel
theorem d1_19 : decode prog_140_method_3_code 19 = .ok (.iconst 2, 1) := by decide +kernel
theorem d1_20 : decode prog_140_method_3_code 20 = .ok (.istore_n 1, 1) := by decide +kernel
theorem d1_21 : decode prog_140_method_3_code 21 = .ok (.goto 16, 3) := by decide +kernel
theorem d1_24 : decode prog_140_method_3_code 24 = .ok (.iload_n 0, 1) := by decide +kernel
theorem d1_25 : decode prog_140_method_3_code 25 = .ok (.ldc 12, 2) := by decide +kernel
theorem d1_27 : decode prog_140_method_3_code 27 = .ok (.if_icmp .ge 8, 3) := by decide +kernel
theorem d1_30 : decode prog_140_method_3_code 30 = .ok (.iconst 3, 1) := by decide +kernel
theorem d1_31 : decode prog_140_method_3_code 31 = .ok (.istore_n 1, 1) := by decide +kernel
theorem d1_32 : decode prog_140_method_3_code 32 = .ok (.goto 5, 3) := by decide +kernel
theorem d1_35 : decode prog_140_method_3_code 35 = .ok (.iconst 4, 1) := by decide +kernel
theorem d1_36 : decode prog_140_method_3_code 36 = .ok (.istore_n 1, 1) := by decide +kernel
theorem d1_37 : decode prog_140_method_3_code 37 = .ok (.iload_n 1, 1) := by decide +kernel
theorem d1_38 : decode prog_140_method_3_code 38 = .ok (.ireturn, 1) := by decide +kernel
theorem pn_0 : plainName "com/example/chaise/chaise/formats/SourceText" = true := by first | (simp [plainName, overriddenIn]; done) | decide +kernel
theorem ef_rm1 (m : MethodId) (p1 : Int32) : entryFrame m #[(.int p1)] 2 = mkF m 0 #[.val (.int p1), .unset] [] := by first | (simp [entryFrame, mkF, argsToLocals, Value.category]; done) | rfl
def fn1 (p1 : Int32) : Int32 := (if p1 < (128 : Int32) then (1 : Int32) else (if p1 < (2048 : Int32) then (2 : Int32) else (if p1 < (65536 : Int32) then (3 : Int32) else (4 : Int32))))
def Q1 (Z : State) (p1 : Int32) (h0 : Heap) (n0 : Nat) (v : Option Value) (h : Heap) (L : List Loc) : Prop := v = some (.int (fn1 p1)) ∧ Fr n0 L ∧ h = h0
set_option maxRecDepth 65536 in
set_option maxHeartbeats 40000000 in
theorem rm1 (l : Launch) (Z : State) (a0 : Array Value) (hw : ∀ d ∈ tables_1, d.before a0 Z = true) (ws : List Jvm.Cond) (p1 : Int32) (h0 : Heap) (n0 : Nat) (Z0 : n0 ≤ h0.size) :
    MetFree l (⟨"com/example/chaise/chaise/formats/SourceText", "length", "(I)I"⟩ : MethodName) (head1 (Jvm.Cond.code (⟨"com/example/chaise/chaise/formats/SourceText", "length", "(I)I"⟩ : MethodName) prog_140_method_3_code 2 (some .int) :: ws) ({ frames := 0, cells := 0, slots := 0, locals := 0 } : Room)) (fun a U => a = #[(.int p1)] ∧ Z.Warmed39 U.vm ∧ U.heap = h0) (fun _ _ _ _ _ => True) (fun _ U o U' => ∃ v L, o = .returned v ∧ Q1 Z p1 h0 n0 v U'.heap L ∧ FrameEnd U o U' L ({ frames := 0, cells := 0, slots := 0, locals := 0 } : Room).cells ({ frames := 0, cells := 0, slots := 0, locals := 0 } : Room).slots) := by
  refine MetFree.of_bodySF (plainFor_of_name pn_0) hisR ?_
  intro p e s m args below meth c s₁ Bd hml0 hP hK
  obtain ⟨rfl, hZ, hh⟩ := hP
  have hx := Bd.exec
  have hby := Bd.bytes
  have hml : c.maxLocals = 2 := hml0
  have hown : s.vm.findClass "com/example/chaise/chaise/formats/SourceText" = some m.cls := findClass_of_methodNamed Bd.named
  have hnm := (name_of_methodNamed Bd.named Bd.method).1
  have X0 : Stand p l e ({ frames := 0, cells := 0, slots := 0, locals := 0 } : Room) s m #[(.int p1)] below meth c s₁ [] 0 0 := Stand.of_body Bd
  have e0 : s₁.heap = h0 := by rw [← hh, Bd.state]; rfl
  have N0 := Fr.nil n0
  show Goes p e s below (fun v h L => Q1 Z p1 h0 n0 v h L) ({ frames := 0, cells := 0, slots := 0, locals := 0 } : Room).cells ({ frames := 0, cells := 0, slots := 0, locals := 0 } : Room).slots (s₁.setTop (entryFrame m #[(.int p1)] 2))
  refine Goes.st (U' := s₁.setTop (mkF m 0 #[.val (.int p1), .unset] [])) (fun t k => castTop (ef_rm1 m p1) k) ?_
  refine Goes.st (U' := s₁.setTop (mkF m 1 #[.val (.int p1), .unset] [(.int p1)])) (fun t k => XS.iloadN X0.here hx rfl (hb hby d1_0) rfl k) ?_
  refine Goes.st (U' := s₁.setTop (mkF m 4 #[.val (.int p1), .unset] [(.int (128 : Int32)), (.int p1)])) (fun t k => XS.sipush X0.here hx rfl (hb hby d1_1) k) ?_
  rcases Decidable.em (p1 < (128 : Int32)) with hc4 | hc4
  · refine Goes.st (U' := s₁.setTop (mkF m 7 #[.val (.int p1), .unset] [])) (fun t k => XS.icmpNo X0.here hx rfl (hb hby d1_4) rfl (tlt hc4).2.1 k) ?_
    refine Goes.st (U' := s₁.setTop (mkF m 8 #[.val (.int p1), .unset] [(.int (1 : Int32))])) (fun t k => XS.iconst X0.here hx rfl (hb hby d1_7) k) ?_
    refine Goes.st (U' := s₁.setTop (mkF m 9 #[.val (.int p1), .val (.int (1 : Int32))] [])) (fun t k => XS.istoreN X0.here hx rfl (hb hby d1_8) rfl (l' := #[.val (.int p1), .val (.int (1 : Int32))]) rfl k) ?_
    refine Goes.st (U' := s₁.setTop (mkF m 37 #[.val (.int p1), .val (.int (1 : Int32))] [])) (fun t k => XS.goto X0.here hx rfl (pc0 := 9) (pc' := 37) rfl (hb hby d1_9) (by decide) (by decide) k) ?_
    refine Goes.st (U' := s₁.setTop (mkF m 38 #[.val (.int p1), .val (.int (1 : Int32))] [(.int (1 : Int32))])) (fun t k => XS.iloadN X0.here hx rfl (hb hby d1_37) rfl k) ?_
    refine Goes.retI X0 hx (BodyLoose.notSynchronized Bd) Bd.returns (hb hby d1_38) (by decide) (by decide) ?_
    show Q1 Z p1 h0 n0 _ s₁.heap _
    rw [e0]
    exact ⟨(congrArg some (congrArg _ (by unfold fn1; rw [if_pos hc4]))), N0, rfl⟩
  · refine Goes.st (U' := s₁.setTop (mkF m 12 #[.val (.int p1), .unset] [])) (fun t k => XS.icmpYes X0.here hx rfl (pc0 := 4) (pc' := 12) rfl (hb hby d1_4) rfl (flt hc4).2.1 (by decide) (by decide) k) ?_
    refine Goes.st (U' := s₁.setTop (mkF m 13 #[.val (.int p1), .unset] [(.int p1)])) (fun t k => XS.iloadN X0.here hx rfl (hb hby d1_12) rfl k) ?_
    refine Goes.st (U' := s₁.setTop (mkF m 16 #[.val (.int p1), .unset] [(.int (2048 : Int32)), (.int p1)])) (fun t k => XS.sipush X0.here hx rfl (hb hby d1_13) k) ?_
    rcases Decidable.em (p1 < (2048 : Int32)) with hc16 | hc16
    · refine Goes.st (U' := s₁.setTop (mkF m 19 #[.val (.int p1), .unset] [])) (fun t k => XS.icmpNo X0.here hx rfl (hb hby d1_16) rfl (tlt hc16).2.1 k) ?_
      refine Goes.st (U' := s₁.setTop (mkF m 20 #[.val (.int p1), .unset] [(.int (2 : Int32))])) (fun t k => XS.iconst X0.here hx rfl (hb hby d1_19) k) ?_
      refine Goes.st (U' := s₁.setTop (mkF m 21 #[.val (.int p1), .val (.int (2 : Int32))] [])) (fun t k => XS.istoreN X0.here hx rfl (hb hby d1_20) rfl (l' := #[.val (.int p1), .val (.int (2 : Int32))]) rfl k) ?_
      refine Goes.st (U' := s₁.setTop (mkF m 37 #[.val (.int p1), .val (.int (2 : Int32))] [])) (fun t k => XS.goto X0.here hx rfl (pc0 := 21) (pc' := 37) rfl (hb hby d1_21) (by decide) (by decide) k) ?_
      refine Goes.st (U' := s₁.setTop (mkF m 38 #[.val (.int p1), .val (.int (2 : Int32))] [(.int (2 : Int32))])) (fun t k => XS.iloadN X0.here hx rfl (hb hby d1_37) rfl k) ?_
      refine Goes.retI X0 hx (BodyLoose.notSynchronized Bd) Bd.returns (hb hby d1_38) (by decide) (by decide) ?_
      show Q1 Z p1 h0 n0 _ s₁.heap _
      rw [e0]
      exact ⟨(congrArg some (congrArg _ (by unfold fn1; rw [if_neg hc4]; rw [if_pos hc16]))), N0, rfl⟩
    · refine Goes.st (U' := s₁.setTop (mkF m 24 #[.val (.int p1), .unset] [])) (fun t k => XS.icmpYes X0.here hx rfl (pc0 := 16) (pc' := 24) rfl (hb hby d1_16) rfl (flt hc16).2.1 (by decide) (by decide) k) ?_
      refine Goes.st (U' := s₁.setTop (mkF m 25 #[.val (.int p1), .unset] [(.int p1)])) (fun t k => XS.iloadN X0.here hx rfl (hb hby d1_24) rfl k) ?_
      refine Goes.st (U' := s₁.setTop (mkF m 27 #[.val (.int p1), .unset] [(.int (65536 : Int32)), (.int p1)])) (fun t k => X0.ldcInt hx hown (mvT hZ (hw _ (List.mem_of_getElem? (i := 6) rfl))) (g := (mkF m 25 #[.val (.int p1), .unset] [(.int p1)])) rfl (hb hby d1_25) t k) ?_
      rcases Decidable.em (p1 < (65536 : Int32)) with hc27 | hc27
      · refine Goes.st (U' := s₁.setTop (mkF m 30 #[.val (.int p1), .unset] [])) (fun t k => XS.icmpNo X0.here hx rfl (hb hby d1_27) rfl (tlt hc27).2.1 k) ?_
        refine Goes.st (U' := s₁.setTop (mkF m 31 #[.val (.int p1), .unset] [(.int (3 : Int32))])) (fun t k => XS.iconst X0.here hx rfl (hb hby d1_30) k) ?_
        refine Goes.st (U' := s₁.setTop (mkF m 32 #[.val (.int p1), .val (.int (3 : Int32))] [])) (fun t k => XS.istoreN X0.here hx rfl (hb hby d1_31) rfl (l' := #[.val (.int p1), .val (.int (3 : Int32))]) rfl k) ?_
        refine Goes.st (U' := s₁.setTop (mkF m 37 #[.val (.int p1), .val (.int (3 : Int32))] [])) (fun t k => XS.goto X0.here hx rfl (pc0 := 32) (pc' := 37) rfl (hb hby d1_32) (by decide) (by decide) k) ?_
        refine Goes.st (U' := s₁.setTop (mkF m 38 #[.val (.int p1), .val (.int (3 : Int32))] [(.int (3 : Int32))])) (fun t k => XS.iloadN X0.here hx rfl (hb hby d1_37) rfl k) ?_
        refine Goes.retI X0 hx (BodyLoose.notSynchronized Bd) Bd.returns (hb hby d1_38) (by decide) (by decide) ?_
        show Q1 Z p1 h0 n0 _ s₁.heap _
        rw [e0]
        exact ⟨(congrArg some (congrArg _ (by unfold fn1; rw [if_neg hc4]; rw [if_neg hc16]; rw [if_pos hc27]))), N0, rfl⟩
      · refine Goes.st (U' := s₁.setTop (mkF m 35 #[.val (.int p1), .unset] [])) (fun t k => XS.icmpYes X0.here hx rfl (pc0 := 27) (pc' := 35) rfl (hb hby d1_27) rfl (flt hc27).2.1 (by decide) (by decide) k) ?_
        refine Goes.st (U' := s₁.setTop (mkF m 36 #[.val (.int p1), .unset] [(.int (4 : Int32))])) (fun t k => XS.iconst X0.here hx rfl (hb hby d1_35) k) ?_
        refine Goes.st (U' := s₁.setTop (mkF m 37 #[.val (.int p1), .val (.int (4 : Int32))] [])) (fun t k => XS.istoreN X0.here hx rfl (hb hby d1_36) rfl (l' := #[.val (.int p1), .val (.int (4 : Int32))]) rfl k) ?_
        refine Goes.st (U' := s₁.setTop (mkF m 38 #[.val (.int p1), .val (.int (4 : Int32))] [(.int (4 : Int32))])) (fun t k => XS.iloadN X0.here hx rfl (hb hby d1_37) rfl k) ?_
        refine Goes.retI X0 hx (BodyLoose.notSynchronized Bd) Bd.returns (hb hby d1_38) (by decide) (by decide) ?_
        show Q1 Z p1 h0 n0 _ s₁.heap _
        rw [e0]
        exact ⟨(congrArg some (congrArg _ (by unfold fn1; rw [if_neg hc4]; rw [if_neg hc16]; rw [if_neg hc27]))), N0, rfl⟩
theorem pd_0 : parseMethodDescriptor "(I)I" = some ⟨[.int], some .int⟩ := by decide +kernel
theorem pn_1 : plainName "com/example/chaise/chaise/formats/SourceTextLengthPinLaw" = true := by first | (simp [plainName, overriddenIn]; done) | decide +kernel
theorem ef_rm0 (m : MethodId) (p1 : Int32) (p2 : Int32) : entryFrame m #[(.int p1), (.int p2)] maxLocals = mkF m 0 #[.val (.int p1), .val (.int p2), .unset, .unset, .unset, .unset] [] := by first | (simp [entryFrame, mkF, argsToLocals, Value.category, maxLocals]; done) | rfl
def fn0 (p1 : Int32) (p2 : Int32) : Int32 := (if ((p1 &&& (3 : Int32)) + (1 : Int32)) = (1 : Int32) then (if (fn1 ((0 : Int32) + ((p2 &&& (2147483647 : Int32)) % (128 : Int32)))) = ((p1 &&& (3 : Int32)) + (1 : Int32)) then (if (fn1 (0 : Int32)) = ((p1 &&& (3 : Int32)) + (1 : Int32)) then (if (fn1 (127 : Int32)) = ((p1 &&& (3 : Int32)) + (1 : Int32)) then (1 : Int32) else (0 : Int32)) else (0 : Int32)) else (0 : Int32)) else (if ((p1 &&& (3 : Int32)) + (1 : Int32)) = (2 : Int32) then (if (fn1 ((128 : Int32) + ((p2 &&& (2147483647 : Int32)) % (1920 : Int32)))) = ((p1 &&& (3 : Int32)) + (1 : Int32)) then (if (fn1 (128 : Int32)) = ((p1 &&& (3 : Int32)) + (1 : Int32)) then (if (fn1 (2047 : Int32)) = ((p1 &&& (3 : Int32)) + (1 : Int32)) then (1 : Int32) else (0 : Int32)) else (0 : Int32)) else (0 : Int32)) else (if ((p1 &&& (3 : Int32)) + (1 : Int32)) = (3 : Int32) then (if (fn1 ((2048 : Int32) + ((p2 &&& (2147483647 : Int32)) % (63488 : Int32)))) = ((p1 &&& (3 : Int32)) + (1 : Int32)) then (if (fn1 (2048 : Int32)) = ((p1 &&& (3 : Int32)) + (1 : Int32)) then (if (fn1 (65535 : Int32)) = ((p1 &&& (3 : Int32)) + (1 : Int32)) then (1 : Int32) else (0 : Int32)) else (0 : Int32)) else (0 : Int32)) else (if (fn1 ((65536 : Int32) + ((p2 &&& (2147483647 : Int32)) % (1048576 : Int32)))) = ((p1 &&& (3 : Int32)) + (1 : Int32)) then (if (fn1 (65536 : Int32)) = ((p1 &&& (3 : Int32)) + (1 : Int32)) then (if (fn1 (1114111 : Int32)) = ((p1 &&& (3 : Int32)) + (1 : Int32)) then (1 : Int32) else (0 : Int32)) else (0 : Int32)) else (0 : Int32)))))
def Q0 (Z : State) (p1 : Int32) (p2 : Int32) (h0 : Heap) (n0 : Nat) (v : Option Value) (h : Heap) (L : List Loc) : Prop := v = some (.int (fn0 p1 p2)) ∧ Fr n0 L ∧ h = h0
set_option maxRecDepth 65536 in
set_option maxHeartbeats 40000000 in
theorem rm0 (l : Launch) (Z : State) (a0 : Array Value) (hw : ∀ d ∈ tables_1, d.before a0 Z = true) (ws : List Jvm.Cond) (p1 : Int32) (p2 : Int32) (h0 : Heap) (n0 : Nat) (Z0 : n0 ≤ h0.size) :
    MetFree l x (head1 (Jvm.Cond.code x code maxLocals ret :: ws) room_1) (fun a U => a = #[(.int p1), (.int p2)] ∧ Z.Warmed39 U.vm ∧ U.heap = h0) (fun _ _ _ _ _ => True) (fun _ U o U' => ∃ v L, o = .returned v ∧ Q0 Z p1 p2 h0 n0 v U'.heap L ∧ FrameEnd U o U' L room_1.cells room_1.slots) := by
  refine MetFree.of_bodySF (plainFor_of_name pn_1) hisR ?_
  intro p e s m args below meth c s₁ Bd hml0 hP hK
  obtain ⟨rfl, hZ, hh⟩ := hP
  have hx := Bd.exec
  have hby := Bd.bytes
  have hml : c.maxLocals = 6 := hml0
  have hown : s.vm.findClass "com/example/chaise/chaise/formats/SourceTextLengthPinLaw" = some m.cls := findClass_of_methodNamed Bd.named
  have hnm := (name_of_methodNamed Bd.named Bd.method).1
  have X0 : Stand p l e room_1 s m #[(.int p1), (.int p2)] below meth c s₁ [] 0 0 := Stand.of_body Bd
  have e0 : s₁.heap = h0 := by rw [← hh, Bd.state]; rfl
  have N0 := Fr.nil n0
  show Goes p e s below (fun v h L => Q0 Z p1 p2 h0 n0 v h L) room_1.cells room_1.slots (s₁.setTop (entryFrame m #[(.int p1), (.int p2)] maxLocals))
  refine Goes.st (U' := s₁.setTop (mkF m 0 #[.val (.int p1), .val (.int p2), .unset, .unset, .unset, .unset] [])) (fun t k => castTop (ef_rm0 m p1 p2) k) ?_
  refine Goes.st (U' := s₁.setTop (mkF m 1 #[.val (.int p1), .val (.int p2), .unset, .unset, .unset, .unset] [(.int p1)])) (fun t k => XS.iloadN X0.here hx rfl (hb hby at_0) rfl k) ?_
  refine Goes.st (U' := s₁.setTop (mkF m 2 #[.val (.int p1), .val (.int p2), .unset, .unset, .unset, .unset] [(.int (3 : Int32)), (.int p1)])) (fun t k => XS.iconst X0.here hx rfl (hb hby at_1) k) ?_
  refine Goes.st (U' := s₁.setTop (mkF m 3 #[.val (.int p1), .val (.int p2), .unset, .unset, .unset, .unset] [(.int (p1 &&& (3 : Int32)))])) (fun t k => XS.iand X0.here hx rfl (hb hby at_2) rfl k) ?_
  refine Goes.st (U' := s₁.setTop (mkF m 4 #[.val (.int p1), .val (.int p2), .unset, .unset, .unset, .unset] [(.int (1 : Int32)), (.int (p1 &&& (3 : Int32)))])) (fun t k => XS.iconst X0.here hx rfl (hb hby at_3) k) ?_
  refine Goes.st (U' := s₁.setTop (mkF m 5 #[.val (.int p1), .val (.int p2), .unset, .unset, .unset, .unset] [(.int ((p1 &&& (3 : Int32)) + (1 : Int32)))])) (fun t k => XS.iadd X0.here hx rfl (hb hby at_4) rfl k) ?_
  refine Goes.st (U' := s₁.setTop (mkF m 6 #[.val (.int p1), .val (.int p2), .val (.int ((p1 &&& (3 : Int32)) + (1 : Int32))), .unset, .unset, .unset] [])) (fun t k => XS.istoreN X0.here hx rfl (hb hby at_5) rfl (l' := #[.val (.int p1), .val (.int p2), .val (.int ((p1 &&& (3 : Int32)) + (1 : Int32))), .unset, .unset, .unset]) rfl k) ?_
  refine Goes.st (U' := s₁.setTop (mkF m 7 #[.val (.int p1), .val (.int p2), .val (.int ((p1 &&& (3 : Int32)) + (1 : Int32))), .unset, .unset, .unset] [(.int ((p1 &&& (3 : Int32)) + (1 : Int32)))])) (fun t k => XS.iloadN X0.here hx rfl (hb hby at_6) rfl k) ?_
  refine Goes.st (U' := s₁.setTop (mkF m 8 #[.val (.int p1), .val (.int p2), .val (.int ((p1 &&& (3 : Int32)) + (1 : Int32))), .unset, .unset, .unset] [(.int (1 : Int32)), (.int ((p1 &&& (3 : Int32)) + (1 : Int32)))])) (fun t k => XS.iconst X0.here hx rfl (hb hby at_7) k) ?_
  rcases Decidable.em (((p1 &&& (3 : Int32)) + (1 : Int32)) = (1 : Int32)) with hc8 | hc8
  · refine Goes.st (U' := s₁.setTop (mkF m 11 #[.val (.int p1), .val (.int p2), .val (.int ((p1 &&& (3 : Int32)) + (1 : Int32))), .unset, .unset, .unset] [])) (fun t k => XS.icmpNo X0.here hx rfl (hb hby at_8) rfl (teq hc8).2 k) ?_
    refine Goes.st (U' := s₁.setTop (mkF m 12 #[.val (.int p1), .val (.int p2), .val (.int ((p1 &&& (3 : Int32)) + (1 : Int32))), .unset, .unset, .unset] [(.int (0 : Int32))])) (fun t k => XS.iconst X0.here hx rfl (hb hby at_11) k) ?_
    refine Goes.st (U' := s₁.setTop (mkF m 13 #[.val (.int p1), .val (.int p2), .val (.int ((p1 &&& (3 : Int32)) + (1 : Int32))), .val (.int (0 : Int32)), .unset, .unset] [])) (fun t k => XS.istoreN X0.here hx rfl (hb hby at_12) rfl (l' := #[.val (.int p1), .val (.int p2), .val (.int ((p1 &&& (3 : Int32)) + (1 : Int32))), .val (.int (0 : Int32)), .unset, .unset]) rfl k) ?_
    refine Goes.st (U' := s₁.setTop (mkF m 15 #[.val (.int p1), .val (.int p2), .val (.int ((p1 &&& (3 : Int32)) + (1 : Int32))), .val (.int (0 : Int32)), .unset, .unset] [(.int (127 : Int32))])) (fun t k => XS.bipush X0.here hx rfl (hb hby at_13) k) ?_
    refine Goes.st (U' := s₁.setTop (mkF m 17 #[.val (.int p1), .val (.int p2), .val (.int ((p1 &&& (3 : Int32)) + (1 : Int32))), .val (.int (0 : Int32)), .val (.int (127 : Int32)), .unset] [])) (fun t k => XS.istore X0.here hx rfl (hb hby at_15) rfl (l' := #[.val (.int p1), .val (.int p2), .val (.int ((p1 &&& (3 : Int32)) + (1 : Int32))), .val (.int (0 : Int32)), .val (.int (127 : Int32)), .unset]) rfl k) ?_
    refine Goes.st (U' := s₁.setTop (mkF m 60 #[.val (.int p1), .val (.int p2), .val (.int ((p1 &&& (3 : Int32)) + (1 : Int32))), .val (.int (0 : Int32)), .val (.int (127 : Int32)), .unset] [])) (fun t k => XS.goto X0.here hx rfl (pc0 := 17) (pc' := 60) rfl (hb hby at_17) (by decide) (by decide) k) ?_
    refine Goes.st (U' := s₁.setTop (mkF m 61 #[.val (.int p1), .val (.int p2), .val (.int ((p1 &&& (3 : Int32)) + (1 : Int32))), .val (.int (0 : Int32)), .val (.int (127 : Int32)), .unset] [(.int (0 : Int32))])) (fun t k => XS.iloadN X0.here hx rfl (hb hby at_60) rfl k) ?_
    refine Goes.st (U' := s₁.setTop (mkF m 62 #[.val (.int p1), .val (.int p2), .val (.int ((p1 &&& (3 : Int32)) + (1 : Int32))), .val (.int (0 : Int32)), .val (.int (127 : Int32)), .unset] [(.int p2), (.int (0 : Int32))])) (fun t k => XS.iloadN X0.here hx rfl (hb hby at_61) rfl k) ?_
    refine Goes.st (U' := s₁.setTop (mkF m 64 #[.val (.int p1), .val (.int p2), .val (.int ((p1 &&& (3 : Int32)) + (1 : Int32))), .val (.int (0 : Int32)), .val (.int (127 : Int32)), .unset] [(.int (2147483647 : Int32)), (.int p2), (.int (0 : Int32))])) (fun t k => X0.ldcInt hx hown (mvT hZ (hw _ (List.mem_of_getElem? (i := 0) rfl))) (g := (mkF m 62 #[.val (.int p1), .val (.int p2), .val (.int ((p1 &&& (3 : Int32)) + (1 : Int32))), .val (.int (0 : Int32)), .val (.int (127 : Int32)), .unset] [(.int p2), (.int (0 : Int32))])) rfl (hb hby at_62) t k) ?_
    refine Goes.st (U' := s₁.setTop (mkF m 65 #[.val (.int p1), .val (.int p2), .val (.int ((p1 &&& (3 : Int32)) + (1 : Int32))), .val (.int (0 : Int32)), .val (.int (127 : Int32)), .unset] [(.int (p2 &&& (2147483647 : Int32))), (.int (0 : Int32))])) (fun t k => XS.iand X0.here hx rfl (hb hby at_64) rfl k) ?_
    refine Goes.st (U' := s₁.setTop (mkF m 67 #[.val (.int p1), .val (.int p2), .val (.int ((p1 &&& (3 : Int32)) + (1 : Int32))), .val (.int (0 : Int32)), .val (.int (127 : Int32)), .unset] [(.int (127 : Int32)), (.int (p2 &&& (2147483647 : Int32))), (.int (0 : Int32))])) (fun t k => XS.iload X0.here hx rfl (hb hby at_65) rfl k) ?_
    refine Goes.st (U' := s₁.setTop (mkF m 68 #[.val (.int p1), .val (.int p2), .val (.int ((p1 &&& (3 : Int32)) + (1 : Int32))), .val (.int (0 : Int32)), .val (.int (127 : Int32)), .unset] [(.int (0 : Int32)), (.int (127 : Int32)), (.int (p2 &&& (2147483647 : Int32))), (.int (0 : Int32))])) (fun t k => XS.iloadN X0.here hx rfl (hb hby at_67) rfl k) ?_
    refine Goes.st (U' := s₁.setTop (mkF m 69 #[.val (.int p1), .val (.int p2), .val (.int ((p1 &&& (3 : Int32)) + (1 : Int32))), .val (.int (0 : Int32)), .val (.int (127 : Int32)), .unset] [(.int (127 : Int32)), (.int (p2 &&& (2147483647 : Int32))), (.int (0 : Int32))])) (fun t k => XS.isub X0.here hx rfl (hb hby at_68) rfl k) ?_
    refine Goes.st (U' := s₁.setTop (mkF m 70 #[.val (.int p1), .val (.int p2), .val (.int ((p1 &&& (3 : Int32)) + (1 : Int32))), .val (.int (0 : Int32)), .val (.int (127 : Int32)), .unset] [(.int (1 : Int32)), (.int (127 : Int32)), (.int (p2 &&& (2147483647 : Int32))), (.int (0 : Int32))])) (fun t k => XS.iconst X0.here hx rfl (hb hby at_69) k) ?_
    refine Goes.st (U' := s₁.setTop (mkF m 71 #[.val (.int p1), .val (.int p2), .val (.int ((p1 &&& (3 : Int32)) + (1 : Int32))), .val (.int (0 : Int32)), .val (.int (127 : Int32)), .unset] [(.int (128 : Int32)), (.int (p2 &&& (2147483647 : Int32))), (.int (0 : Int32))])) (fun t k => XS.iadd X0.here hx rfl (hb hby at_70) rfl k) ?_
    refine Goes.st (U' := s₁.setTop (mkF m 72 #[.val (.int p1), .val (.int p2), .val (.int ((p1 &&& (3 : Int32)) + (1 : Int32))), .val (.int (0 : Int32)), .val (.int (127 : Int32)), .unset] [(.int ((p2 &&& (2147483647 : Int32)) % (128 : Int32))), (.int (0 : Int32))])) (fun t k => iremM X0 hx rfl (hb hby at_71) rfl (by decide +kernel : ¬ ((128 : Int32) = (0 : Int32))) k) ?_
    refine Goes.st (U' := s₁.setTop (mkF m 73 #[.val (.int p1), .val (.int p2), .val (.int ((p1 &&& (3 : Int32)) + (1 : Int32))), .val (.int (0 : Int32)), .val (.int (127 : Int32)), .unset] [(.int ((0 : Int32) + ((p2 &&& (2147483647 : Int32)) % (128 : Int32))))])) (fun t k => XS.iadd X0.here hx rfl (hb hby at_72) rfl k) ?_
    refine Goes.st (U' := s₁.setTop (mkF m 75 #[.val (.int p1), .val (.int p2), .val (.int ((p1 &&& (3 : Int32)) + (1 : Int32))), .val (.int (0 : Int32)), .val (.int (127 : Int32)), .val (.int ((0 : Int32) + ((p2 &&& (2147483647 : Int32)) % (128 : Int32))))] [])) (fun t k => XS.istore X0.here hx rfl (hb hby at_73) rfl (l' := #[.val (.int p1), .val (.int p2), .val (.int ((p1 &&& (3 : Int32)) + (1 : Int32))), .val (.int (0 : Int32)), .val (.int (127 : Int32)), .val (.int ((0 : Int32) + ((p2 &&& (2147483647 : Int32)) % (128 : Int32))))]) rfl k) ?_
    refine Goes.st (U' := s₁.setTop (mkF m 77 #[.val (.int p1), .val (.int p2), .val (.int ((p1 &&& (3 : Int32)) + (1 : Int32))), .val (.int (0 : Int32)), .val (.int (127 : Int32)), .val (.int ((0 : Int32) + ((p2 &&& (2147483647 : Int32)) % (128 : Int32))))] [(.int ((0 : Int32) + ((p2 &&& (2147483647 : Int32)) % (128 : Int32))))])) (fun t k => XS.iload X0.here hx rfl (hb hby at_75) rfl k) ?_
    obtain ⟨_, _, ⟨T1, L1, k1, n1⟩, -, X1, ⟨Lc1, hQ1, l1, y1, z1⟩, st1⟩ := Jvm.LawKit.callS X0 hx (y := (⟨"com/example/chaise/chaise/formats/SourceText", "length", "(I)I"⟩ : MethodName)) hown (mvT hZ (hw _ (List.mem_of_getElem? (i := 1) rfl))) (mvT hZ (hw _ (List.mem_of_getElem? (i := 2) rfl))) (mvT hZ (hw _ (List.mem_of_getElem? (i := 3) rfl))) (mvT hZ (hw _ (List.mem_of_getElem? (i := 4) rfl))) (by decide) (backOf (W := 0) (rm1 l Z a0 hw [] ((0 : Int32) + ((p2 &&& (2147483647 : Int32)) % (128 : Int32))) h0 n0 Z0) hZ (hw _ (List.mem_of_getElem? (i := 4) rfl)) (hw _ (List.mem_of_getElem? (i := 3) rfl)) (by decide) (by decide)) (g := (mkF m 77 #[.val (.int p1), .val (.int p2), .val (.int ((p1 &&& (3 : Int32)) + (1 : Int32))), .val (.int (0 : Int32)), .val (.int (127 : Int32)), .val (.int ((0 : Int32) + ((p2 &&& (2147483647 : Int32)) % (128 : Int32))))] [(.int ((0 : Int32) + ((p2 &&& (2147483647 : Int32)) % (128 : Int32))))])) rfl (by rw [hml]; rfl) (argsL := [(.int ((0 : Int32) + ((p2 &&& (2147483647 : Int32)) % (128 : Int32))))]) (rest := []) (lenOf pd_0 rfl) rfl (by show 2 * 0 + _ ≤ _; exact Nat.le_of_eq rfl) (hb hby at_77) (fun _ _ => ⟨rfl, e0, (by decide : 0 + 0 ≤ _), (by decide : 0 + 0 ≤ _)⟩)
    dsimp only [Pt.U, Pt.locs, Pt.cells, Pt.slots] at X1 l1 y1 z1 st1 hQ1
    subst l1 y1 z1
    obtain ⟨rfl, N1q, e1⟩ := hQ1
    have N1 := Fr.app N0 N1q
    refine Goes.st (U' := T1.setTop (mkF m 80 #[.val (.int p1), .val (.int p2), .val (.int ((p1 &&& (3 : Int32)) + (1 : Int32))), .val (.int (0 : Int32)), .val (.int (127 : Int32)), .val (.int ((0 : Int32) + ((p2 &&& (2147483647 : Int32)) % (128 : Int32))))] [(.int (fn1 ((0 : Int32) + ((p2 &&& (2147483647 : Int32)) % (128 : Int32)))))])) st1 ?_
    refine Goes.st (U' := T1.setTop (mkF m 81 #[.val (.int p1), .val (.int p2), .val (.int ((p1 &&& (3 : Int32)) + (1 : Int32))), .val (.int (0 : Int32)), .val (.int (127 : Int32)), .val (.int ((0 : Int32) + ((p2 &&& (2147483647 : Int32)) % (128 : Int32))))] [(.int ((p1 &&& (3 : Int32)) + (1 : Int32))), (.int (fn1 ((0 : Int32) + ((p2 &&& (2147483647 : Int32)) % (128 : Int32)))))])) (fun t k => XS.iloadN X1.here hx rfl (hb hby at_80) rfl k) ?_
    rcases Decidable.em ((fn1 ((0 : Int32) + ((p2 &&& (2147483647 : Int32)) % (128 : Int32)))) = ((p1 &&& (3 : Int32)) + (1 : Int32))) with hc81 | hc81
    · refine Goes.st (U' := T1.setTop (mkF m 84 #[.val (.int p1), .val (.int p2), .val (.int ((p1 &&& (3 : Int32)) + (1 : Int32))), .val (.int (0 : Int32)), .val (.int (127 : Int32)), .val (.int ((0 : Int32) + ((p2 &&& (2147483647 : Int32)) % (128 : Int32))))] [])) (fun t k => XS.icmpNo X1.here hx rfl (hb hby at_81) rfl (teq hc81).2 k) ?_
      refine Goes.st (U' := T1.setTop (mkF m 85 #[.val (.int p1), .val (.int p2), .val (.int ((p1 &&& (3 : Int32)) + (1 : Int32))), .val (.int (0 : Int32)), .val (.int (127 : Int32)), .val (.int ((0 : Int32) + ((p2 &&& (2147483647 : Int32)) % (128 : Int32))))] [(.int (0 : Int32))])) (fun t k => XS.iloadN X1.here hx rfl (hb hby at_84) rfl k) ?_
      obtain ⟨_, _, ⟨T2, L2, k2, n2⟩, -, X2, ⟨Lc2, hQ2, l2, y2, z2⟩, st2⟩ := Jvm.LawKit.callS X1 hx (y := (⟨"com/example/chaise/chaise/formats/SourceText", "length", "(I)I"⟩ : MethodName)) hown (mvT hZ (hw _ (List.mem_of_getElem? (i := 1) rfl))) (mvT hZ (hw _ (List.mem_of_getElem? (i := 2) rfl))) (mvT hZ (hw _ (List.mem_of_getElem? (i := 3) rfl))) (mvT hZ (hw _ (List.mem_of_getElem? (i := 4) rfl))) (by decide) (backOf (W := 0) (rm1 l Z a0 hw [] (0 : Int32) h0 n0 Z0) hZ (hw _ (List.mem_of_getElem? (i := 4) rfl)) (hw _ (List.mem_of_getElem? (i := 3) rfl)) (by decide) (by decide)) (g := (mkF m 85 #[.val (.int p1), .val (.int p2), .val (.int ((p1 &&& (3 : Int32)) + (1 : Int32))), .val (.int (0 : Int32)), .val (.int (127 : Int32)), .val (.int ((0 : Int32) + ((p2 &&& (2147483647 : Int32)) % (128 : Int32))))] [(.int (0 : Int32))])) rfl (by rw [hml]; rfl) (argsL := [(.int (0 : Int32))]) (rest := []) (lenOf pd_0 rfl) rfl (by show 2 * 0 + _ ≤ _; exact Nat.le_of_eq rfl) (hb hby at_85) (fun _ _ => ⟨rfl, e1, (by decide : 0 + 0 ≤ _), (by decide : 0 + 0 ≤ _)⟩)
      dsimp only [Pt.U, Pt.locs, Pt.cells, Pt.slots] at X2 l2 y2 z2 st2 hQ2
      subst l2 y2 z2
      obtain ⟨rfl, N2q, e2⟩ := hQ2
      have N2 := Fr.app N1 N2q
      refine Goes.st (U' := T2.setTop (mkF m 88 #[.val (.int p1), .val (.int p2), .val (.int ((p1 &&& (3 : Int32)) + (1 : Int32))), .val (.int (0 : Int32)), .val (.int (127 : Int32)), .val (.int ((0 : Int32) + ((p2 &&& (2147483647 : Int32)) % (128 : Int32))))] [(.int (fn1 (0 : Int32)))])) st2 ?_
      refine Goes.st (U' := T2.setTop (mkF m 89 #[.val (.int p1), .val (.int p2), .val (.int ((p1 &&& (3 : Int32)) + (1 : Int32))), .val (.int (0 : Int32)), .val (.int (127 : Int32)), .val (.int ((0 : Int32) + ((p2 &&& (2147483647 : Int32)) % (128 : Int32))))] [(.int ((p1 &&& (3 : Int32)) + (1 : Int32))), (.int (fn1 (0 : Int32)))])) (fun t k => XS.iloadN X2.here hx rfl (hb hby at_88) rfl k) ?_
      rcases Decidable.em ((fn1 (0 : Int32)) = ((p1 &&& (3 : Int32)) + (1 : Int32))) with hc89 | hc89
      · refine Goes.st (U' := T2.setTop (mkF m 92 #[.val (.int p1), .val (.int p2), .val (.int ((p1 &&& (3 : Int32)) + (1 : Int32))), .val (.int (0 : Int32)), .val (.int (127 : Int32)), .val (.int ((0 : Int32) + ((p2 &&& (2147483647 : Int32)) % (128 : Int32))))] [])) (fun t k => XS.icmpNo X2.here hx rfl (hb hby at_89) rfl (teq hc89).2 k) ?_
        refine Goes.st (U' := T2.setTop (mkF m 94 #[.val (.int p1), .val (.int p2), .val (.int ((p1 &&& (3 : Int32)) + (1 : Int32))), .val (.int (0 : Int32)), .val (.int (127 : Int32)), .val (.int ((0 : Int32) + ((p2 &&& (2147483647 : Int32)) % (128 : Int32))))] [(.int (127 : Int32))])) (fun t k => XS.iload X2.here hx rfl (hb hby at_92) rfl k) ?_
        obtain ⟨_, _, ⟨T3, L3, k3, n3⟩, -, X3, ⟨Lc3, hQ3, l3, y3, z3⟩, st3⟩ := Jvm.LawKit.callS X2 hx (y := (⟨"com/example/chaise/chaise/formats/SourceText", "length", "(I)I"⟩ : MethodName)) hown (mvT hZ (hw _ (List.mem_of_getElem? (i := 1) rfl))) (mvT hZ (hw _ (List.mem_of_getElem? (i := 2) rfl))) (mvT hZ (hw _ (List.mem_of_getElem? (i := 3) rfl))) (mvT hZ (hw _ (List.mem_of_getElem? (i := 4) rfl))) (by decide) (backOf (W := 0) (rm1 l Z a0 hw [] (127 : Int32) h0 n0 Z0) hZ (hw _ (List.mem_of_getElem? (i := 4) rfl)) (hw _ (List.mem_of_getElem? (i := 3) rfl)) (by decide) (by decide)) (g := (mkF m 94 #[.val (.int p1), .val (.int p2), .val (.int ((p1 &&& (3 : Int32)) + (1 : Int32))), .val (.int (0 : Int32)), .val (.int (127 : Int32)), .val (.int ((0 : Int32) + ((p2 &&& (2147483647 : Int32)) % (128 : Int32))))] [(.int (127 : Int32))])) rfl (by rw [hml]; rfl) (argsL := [(.int (127 : Int32))]) (rest := []) (lenOf pd_0 rfl) rfl (by show 2 * 0 + _ ≤ _; exact Nat.le_of_eq rfl) (hb hby at_94) (fun _ _ => ⟨rfl, e2, (by decide : 0 + 0 ≤ _), (by decide : 0 + 0 ≤ _)⟩)
        dsimp only [Pt.U, Pt.locs, Pt.cells, Pt.slots] at X3 l3 y3 z3 st3 hQ3
        subst l3 y3 z3
        obtain ⟨rfl, N3q, e3⟩ := hQ3
        have N3 := Fr.app N2 N3q
        refine Goes.st (U' := T3.setTop (mkF m 97 #[.val (.int p1), .val (.int p2), .val (.int ((p1 &&& (3 : Int32)) + (1 : Int32))), .val (.int (0 : Int32)), .val (.int (127 : Int32)), .val (.int ((0 : Int32) + ((p2 &&& (2147483647 : Int32)) % (128 : Int32))))] [(.int (fn1 (127 : Int32)))])) st3 ?_
        refine Goes.st (U' := T3.setTop (mkF m 98 #[.val (.int p1), .val (.int p2), .val (.int ((p1 &&& (3 : Int32)) + (1 : Int32))), .val (.int (0 : Int32)), .val (.int (127 : Int32)), .val (.int ((0 : Int32) + ((p2 &&& (2147483647 : Int32)) % (128 : Int32))))] [(.int ((p1 &&& (3 : Int32)) + (1 : Int32))), (.int (fn1 (127 : Int32)))])) (fun t k => XS.iloadN X3.here hx rfl (hb hby at_97) rfl k) ?_
        rcases Decidable.em ((fn1 (127 : Int32)) = ((p1 &&& (3 : Int32)) + (1 : Int32))) with hc98 | hc98
        · refine Goes.st (U' := T3.setTop (mkF m 101 #[.val (.int p1), .val (.int p2), .val (.int ((p1 &&& (3 : Int32)) + (1 : Int32))), .val (.int (0 : Int32)), .val (.int (127 : Int32)), .val (.int ((0 : Int32) + ((p2 &&& (2147483647 : Int32)) % (128 : Int32))))] [])) (fun t k => XS.icmpNo X3.here hx rfl (hb hby at_98) rfl (teq hc98).2 k) ?_
          refine Goes.st (U' := T3.setTop (mkF m 102 #[.val (.int p1), .val (.int p2), .val (.int ((p1 &&& (3 : Int32)) + (1 : Int32))), .val (.int (0 : Int32)), .val (.int (127 : Int32)), .val (.int ((0 : Int32) + ((p2 &&& (2147483647 : Int32)) % (128 : Int32))))] [(.int (1 : Int32))])) (fun t k => XS.iconst X3.here hx rfl (hb hby at_101) k) ?_
          refine Goes.st (U' := T3.setTop (mkF m 106 #[.val (.int p1), .val (.int p2), .val (.int ((p1 &&& (3 : Int32)) + (1 : Int32))), .val (.int (0 : Int32)), .val (.int (127 : Int32)), .val (.int ((0 : Int32) + ((p2 &&& (2147483647 : Int32)) % (128 : Int32))))] [(.int (1 : Int32))])) (fun t k => XS.goto X3.here hx rfl (pc0 := 102) (pc' := 106) rfl (hb hby at_102) (by decide) (by decide) k) ?_
          refine Goes.retZ X3 hx (BodyLoose.notSynchronized Bd) Bd.returns (hb hby at_106) rfl (by decide) (by decide) ?_
          show Q0 Z p1 p2 h0 n0 _ T3.heap _
          rw [e3]
          exact ⟨(congrArg some (congrArg _ (by unfold fn0; rw [if_pos hc8]; rw [if_pos hc81]; rw [if_pos hc89]; rw [if_pos hc98]))), N3, rfl⟩
        · refine Goes.st (U' := T3.setTop (mkF m 105 #[.val (.int p1), .val (.int p2), .val (.int ((p1 &&& (3 : Int32)) + (1 : Int32))), .val (.int (0 : Int32)), .val (.int (127 : Int32)), .val (.int ((0 : Int32) + ((p2 &&& (2147483647 : Int32)) % (128 : Int32))))] [])) (fun t k => XS.icmpYes X3.here hx rfl (pc0 := 98) (pc' := 105) rfl (hb hby at_98) rfl (feq hc98).2 (by decide) (by decide) k) ?_
          refine Goes.st (U' := T3.setTop (mkF m 106 #[.val (.int p1), .val (.int p2), .val (.int ((p1 &&& (3 : Int32)) + (1 : Int32))), .val (.int (0 : Int32)), .val (.int (127 : Int32)), .val (.int ((0 : Int32) + ((p2 &&& (2147483647 : Int32)) % (128 : Int32))))] [(.int (0 : Int32))])) (fun t k => XS.iconst X3.here hx rfl (hb hby at_105) k) ?_
          refine Goes.retZ X3 hx (BodyLoose.notSynchronized Bd) Bd.returns (hb hby at_106) rfl (by decide) (by decide) ?_
          show Q0 Z p1 p2 h0 n0 _ T3.heap _
          rw [e3]
          exact ⟨(congrArg some (congrArg _ (by unfold fn0; rw [if_pos hc8]; rw [if_pos hc81]; rw [if_pos hc89]; rw [if_neg hc98]))), N3, rfl⟩
      · refine Goes.st (U' := T2.setTop (mkF m 105 #[.val (.int p1), .val (.int p2), .val (.int ((p1 &&& (3 : Int32)) + (1 : Int32))), .val (.int (0 : Int32)), .val (.int (127 : Int32)), .val (.int ((0 : Int32) + ((p2 &&& (2147483647 : Int32)) % (128 : Int32))))] [])) (fun t k => XS.icmpYes X2.here hx rfl (pc0 := 89) (pc' := 105) rfl (hb hby at_89) rfl (feq hc89).2 (by decide) (by decide) k) ?_
        refine Goes.st (U' := T2.setTop (mkF m 106 #[.val (.int p1), .val (.int p2), .val (.int ((p1 &&& (3 : Int32)) + (1 : Int32))), .val (.int (0 : Int32)), .val (.int (127 : Int32)), .val (.int ((0 : Int32) + ((p2 &&& (2147483647 : Int32)) % (128 : Int32))))] [(.int (0 : Int32))])) (fun t k => XS.iconst X2.here hx rfl (hb hby at_105) k) ?_
        refine Goes.retZ X2 hx (BodyLoose.notSynchronized Bd) Bd.returns (hb hby at_106) rfl (by decide) (by decide) ?_
        show Q0 Z p1 p2 h0 n0 _ T2.heap _
        rw [e2]
        exact ⟨(congrArg some (congrArg _ (by unfold fn0; rw [if_pos hc8]; rw [if_pos hc81]; rw [if_neg hc89]))), N2, rfl⟩
    · refine Goes.st (U' := T1.setTop (mkF m 105 #[.val (.int p1), .val (.int p2), .val (.int ((p1 &&& (3 : Int32)) + (1 : Int32))), .val (.int (0 : Int32)), .val (.int (127 : Int32)), .val (.int ((0 : Int32) + ((p2 &&& (2147483647 : Int32)) % (128 : Int32))))] [])) (fun t k => XS.icmpYes X1.here hx rfl (pc0 := 81) (pc' := 105) rfl (hb hby at_81) rfl (feq hc81).2 (by decide) (by decide) k) ?_
      refine Goes.st (U' := T1.setTop (mkF m 106 #[.val (.int p1), .val (.int p2), .val (.int ((p1 &&& (3 : Int32)) + (1 : Int32))), .val (.int (0 : Int32)), .val (.int (127 : Int32)), .val (.int ((0 : Int32) + ((p2 &&& (2147483647 : Int32)) % (128 : Int32))))] [(.int (0 : Int32))])) (fun t k => XS.iconst X1.here hx rfl (hb hby at_105) k) ?_
      refine Goes.retZ X1 hx (BodyLoose.notSynchronized Bd) Bd.returns (hb hby at_106) rfl (by decide) (by decide) ?_
      show Q0 Z p1 p2 h0 n0 _ T1.heap _
      rw [e1]
      exact ⟨(congrArg some (congrArg _ (by unfold fn0; rw [if_pos hc8]; rw [if_neg hc81]))), N1, rfl⟩
  · refine Goes.st (U' := s₁.setTop (mkF m 20 #[.val (.int p1), .val (.int p2), .val (.int ((p1 &&& (3 : Int32)) + (1 : Int32))), .unset, .unset, .unset] [])) (fun t k => XS.icmpYes X0.here hx rfl (pc0 := 8) (pc' := 20) rfl (hb hby at_8) rfl (feq hc8).2 (by decide) (by decide) k) ?_
    refine Goes.st (U' := s₁.setTop (mkF m 21 #[.val (.int p1), .val (.int p2), .val (.int ((p1 &&& (3 : Int32)) + (1 : Int32))), .unset, .unset, .unset] [(.int ((p1 &&& (3 : Int32)) + (1 : Int32)))])) (fun t k => XS.iloadN X0.here hx rfl (hb hby at_20) rfl k) ?_
    refine Goes.st (U' := s₁.setTop (mkF m 22 #[.val (.int p1), .val (.int p2), .val (.int ((p1 &&& (3 : Int32)) + (1 : Int32))), .unset, .unset, .unset] [(.int (2 : Int32)), (.int ((p1 &&& (3 : Int32)) + (1 : Int32)))])) (fun t k => XS.iconst X0.here hx rfl (hb hby at_21) k) ?_
    rcases Decidable.em (((p1 &&& (3 : Int32)) + (1 : Int32)) = (2 : Int32)) with hc22 | hc22
    · refine Goes.st (U' := s₁.setTop (mkF m 25 #[.val (.int p1), .val (.int p2), .val (.int ((p1 &&& (3 : Int32)) + (1 : Int32))), .unset, .unset, .unset] [])) (fun t k => XS.icmpNo X0.here hx rfl (hb hby at_22) rfl (teq hc22).2 k) ?_
      refine Goes.st (U' := s₁.setTop (mkF m 28 #[.val (.int p1), .val (.int p2), .val (.int ((p1 &&& (3 : Int32)) + (1 : Int32))), .unset, .unset, .unset] [(.int (128 : Int32))])) (fun t k => XS.sipush X0.here hx rfl (hb hby at_25) k) ?_
      refine Goes.st (U' := s₁.setTop (mkF m 29 #[.val (.int p1), .val (.int p2), .val (.int ((p1 &&& (3 : Int32)) + (1 : Int32))), .val (.int (128 : Int32)), .unset, .unset] [])) (fun t k => XS.istoreN X0.here hx rfl (hb hby at_28) rfl (l' := #[.val (.int p1), .val (.int p2), .val (.int ((p1 &&& (3 : Int32)) + (1 : Int32))), .val (.int (128 : Int32)), .unset, .unset]) rfl k) ?_
      refine Goes.st (U' := s₁.setTop (mkF m 32 #[.val (.int p1), .val (.int p2), .val (.int ((p1 &&& (3 : Int32)) + (1 : Int32))), .val (.int (128 : Int32)), .unset, .unset] [(.int (2047 : Int32))])) (fun t k => XS.sipush X0.here hx rfl (hb hby at_29) k) ?_
      refine Goes.st (U' := s₁.setTop (mkF m 34 #[.val (.int p1), .val (.int p2), .val (.int ((p1 &&& (3 : Int32)) + (1 : Int32))), .val (.int (128 : Int32)), .val (.int (2047 : Int32)), .unset] [])) (fun t k => XS.istore X0.here hx rfl (hb hby at_32) rfl (l' := #[.val (.int p1), .val (.int p2), .val (.int ((p1 &&& (3 : Int32)) + (1 : Int32))), .val (.int (128 : Int32)), .val (.int (2047 : Int32)), .unset]) rfl k) ?_
      refine Goes.st (U' := s₁.setTop (mkF m 60 #[.val (.int p1), .val (.int p2), .val (.int ((p1 &&& (3 : Int32)) + (1 : Int32))), .val (.int (128 : Int32)), .val (.int (2047 : Int32)), .unset] [])) (fun t k => XS.goto X0.here hx rfl (pc0 := 34) (pc' := 60) rfl (hb hby at_34) (by decide) (by decide) k) ?_
      refine Goes.st (U' := s₁.setTop (mkF m 61 #[.val (.int p1), .val (.int p2), .val (.int ((p1 &&& (3 : Int32)) + (1 : Int32))), .val (.int (128 : Int32)), .val (.int (2047 : Int32)), .unset] [(.int (128 : Int32))])) (fun t k => XS.iloadN X0.here hx rfl (hb hby at_60) rfl k) ?_
      refine Goes.st (U' := s₁.setTop (mkF m 62 #[.val (.int p1), .val (.int p2), .val (.int ((p1 &&& (3 : Int32)) + (1 : Int32))), .val (.int (128 : Int32)), .val (.int (2047 : Int32)), .unset] [(.int p2), (.int (128 : Int32))])) (fun t k => XS.iloadN X0.here hx rfl (hb hby at_61) rfl k) ?_
      refine Goes.st (U' := s₁.setTop (mkF m 64 #[.val (.int p1), .val (.int p2), .val (.int ((p1 &&& (3 : Int32)) + (1 : Int32))), .val (.int (128 : Int32)), .val (.int (2047 : Int32)), .unset] [(.int (2147483647 : Int32)), (.int p2), (.int (128 : Int32))])) (fun t k => X0.ldcInt hx hown (mvT hZ (hw _ (List.mem_of_getElem? (i := 0) rfl))) (g := (mkF m 62 #[.val (.int p1), .val (.int p2), .val (.int ((p1 &&& (3 : Int32)) + (1 : Int32))), .val (.int (128 : Int32)), .val (.int (2047 : Int32)), .unset] [(.int p2), (.int (128 : Int32))])) rfl (hb hby at_62) t k) ?_
      refine Goes.st (U' := s₁.setTop (mkF m 65 #[.val (.int p1), .val (.int p2), .val (.int ((p1 &&& (3 : Int32)) + (1 : Int32))), .val (.int (128 : Int32)), .val (.int (2047 : Int32)), .unset] [(.int (p2 &&& (2147483647 : Int32))), (.int (128 : Int32))])) (fun t k => XS.iand X0.here hx rfl (hb hby at_64) rfl k) ?_
      refine Goes.st (U' := s₁.setTop (mkF m 67 #[.val (.int p1), .val (.int p2), .val (.int ((p1 &&& (3 : Int32)) + (1 : Int32))), .val (.int (128 : Int32)), .val (.int (2047 : Int32)), .unset] [(.int (2047 : Int32)), (.int (p2 &&& (2147483647 : Int32))), (.int (128 : Int32))])) (fun t k => XS.iload X0.here hx rfl (hb hby at_65) rfl k) ?_
      refine Goes.st (U' := s₁.setTop (mkF m 68 #[.val (.int p1), .val (.int p2), .val (.int ((p1 &&& (3 : Int32)) + (1 : Int32))), .val (.int (128 : Int32)), .val (.int (2047 : Int32)), .unset] [(.int (128 : Int32)), (.int (2047 : Int32)), (.int (p2 &&& (2147483647 : Int32))), (.int (128 : Int32))])) (fun t k => XS.iloadN X0.here hx rfl (hb hby at_67) rfl k) ?_
      refine Goes.st (U' := s₁.setTop (mkF m 69 #[.val (.int p1), .val (.int p2), .val (.int ((p1 &&& (3 : Int32)) + (1 : Int32))), .val (.int (128 : Int32)), .val (.int (2047 : Int32)), .unset] [(.int (1919 : Int32)), (.int (p2 &&& (2147483647 : Int32))), (.int (128 : Int32))])) (fun t k => XS.isub X0.here hx rfl (hb hby at_68) rfl k) ?_
      refine Goes.st (U' := s₁.setTop (mkF m 70 #[.val (.int p1), .val (.int p2), .val (.int ((p1 &&& (3 : Int32)) + (1 : Int32))), .val (.int (128 : Int32)), .val (.int (2047 : Int32)), .unset] [(.int (1 : Int32)), (.int (1919 : Int32)), (.int (p2 &&& (2147483647 : Int32))), (.int (128 : Int32))])) (fun t k => XS.iconst X0.here hx rfl (hb hby at_69) k) ?_
      refine Goes.st (U' := s₁.setTop (mkF m 71 #[.val (.int p1), .val (.int p2), .val (.int ((p1 &&& (3 : Int32)) + (1 : Int32))), .val (.int (128 : Int32)), .val (.int (2047 : Int32)), .unset] [(.int (1920 : Int32)), (.int (p2 &&& (2147483647 : Int32))), (.int (128 : Int32))])) (fun t k => XS.iadd X0.here hx rfl (hb hby at_70) rfl k) ?_
      refine Goes.st (U' := s₁.setTop (mkF m 72 #[.val (.int p1), .val (.int p2), .val (.int ((p1 &&& (3 : Int32)) + (1 : Int32))), .val (.int (128 : Int32)), .val (.int (2047 : Int32)), .unset] [(.int ((p2 &&& (2147483647 : Int32)) % (1920 : Int32))), (.int (128 : Int32))])) (fun t k => iremM X0 hx rfl (hb hby at_71) rfl (by decide +kernel : ¬ ((1920 : Int32) = (0 : Int32))) k) ?_
      refine Goes.st (U' := s₁.setTop (mkF m 73 #[.val (.int p1), .val (.int p2), .val (.int ((p1 &&& (3 : Int32)) + (1 : Int32))), .val (.int (128 : Int32)), .val (.int (2047 : Int32)), .unset] [(.int ((128 : Int32) + ((p2 &&& (2147483647 : Int32)) % (1920 : Int32))))])) (fun t k => XS.iadd X0.here hx rfl (hb hby at_72) rfl k) ?_
      refine Goes.st (U' := s₁.setTop (mkF m 75 #[.val (.int p1), .val (.int p2), .val (.int ((p1 &&& (3 : Int32)) + (1 : Int32))), .val (.int (128 : Int32)), .val (.int (2047 : Int32)), .val (.int ((128 : Int32) + ((p2 &&& (2147483647 : Int32)) % (1920 : Int32))))] [])) (fun t k => XS.istore X0.here hx rfl (hb hby at_73) rfl (l' := #[.val (.int p1), .val (.int p2), .val (.int ((p1 &&& (3 : Int32)) + (1 : Int32))), .val (.int (128 : Int32)), .val (.int (2047 : Int32)), .val (.int ((128 : Int32) + ((p2 &&& (2147483647 : Int32)) % (1920 : Int32))))]) rfl k) ?_
      refine Goes.st (U' := s₁.setTop (mkF m 77 #[.val (.int p1), .val (.int p2), .val (.int ((p1 &&& (3 : Int32)) + (1 : Int32))), .val (.int (128 : Int32)), .val (.int (2047 : Int32)), .val (.int ((128 : Int32) + ((p2 &&& (2147483647 : Int32)) % (1920 : Int32))))] [(.int ((128 : Int32) + ((p2 &&& (2147483647 : Int32)) % (1920 : Int32))))])) (fun t k => XS.iload X0.here hx rfl (hb hby at_75) rfl k) ?_
      obtain ⟨_, _, ⟨T4, L4, k4, n4⟩, -, X4, ⟨Lc4, hQ4, l4, y4, z4⟩, st4⟩ := Jvm.LawKit.callS X0 hx (y := (⟨"com/example/chaise/chaise/formats/SourceText", "length", "(I)I"⟩ : MethodName)) hown (mvT hZ (hw _ (List.mem_of_getElem? (i := 1) rfl))) (mvT hZ (hw _ (List.mem_of_getElem? (i := 2) rfl))) (mvT hZ (hw _ (List.mem_of_getElem? (i := 3) rfl))) (mvT hZ (hw _ (List.mem_of_getElem? (i := 4) rfl))) (by decide) (backOf (W := 0) (rm1 l Z a0 hw [] ((128 : Int32) + ((p2 &&& (2147483647 : Int32)) % (1920 : Int32))) h0 n0 Z0) hZ (hw _ (List.mem_of_getElem? (i := 4) rfl)) (hw _ (List.mem_of_getElem? (i := 3) rfl)) (by decide) (by decide)) (g := (mkF m 77 #[.val (.int p1), .val (.int p2), .val (.int ((p1 &&& (3 : Int32)) + (1 : Int32))), .val (.int (128 : Int32)), .val (.int (2047 : Int32)), .val (.int ((128 : Int32) + ((p2 &&& (2147483647 : Int32)) % (1920 : Int32))))] [(.int ((128 : Int32) + ((p2 &&& (2147483647 : Int32)) % (1920 : Int32))))])) rfl (by rw [hml]; rfl) (argsL := [(.int ((128 : Int32) + ((p2 &&& (2147483647 : Int32)) % (1920 : Int32))))]) (rest := []) (lenOf pd_0 rfl) rfl (by show 2 * 0 + _ ≤ _; exact Nat.le_of_eq rfl) (hb hby at_77) (fun _ _ => ⟨rfl, e0, (by decide : 0 + 0 ≤ _), (by decide : 0 + 0 ≤ _)⟩)
      dsimp only [Pt.U, Pt.locs, Pt.cells, Pt.slots] at X4 l4 y4 z4 st4 hQ4
      subst l4 y4 z4
      obtain ⟨rfl, N4q, e4⟩ := hQ4
      have N4 := Fr.app N0 N4q
      refine Goes.st (U' := T4.setTop (mkF m 80 #[.val (.int p1), .val (.int p2), .val (.int ((p1 &&& (3 : Int32)) + (1 : Int32))), .val (.int (128 : Int32)), .val (.int (2047 : Int32)), .val (.int ((128 : Int32) + ((p2 &&& (2147483647 : Int32)) % (1920 : Int32))))] [(.int (fn1 ((128 : Int32) + ((p2 &&& (2147483647 : Int32)) % (1920 : Int32)))))])) st4 ?_
      refine Goes.st (U' := T4.setTop (mkF m 81 #[.val (.int p1), .val (.int p2), .val (.int ((p1 &&& (3 : Int32)) + (1 : Int32))), .val (.int (128 : Int32)), .val (.int (2047 : Int32)), .val (.int ((128 : Int32) + ((p2 &&& (2147483647 : Int32)) % (1920 : Int32))))] [(.int ((p1 &&& (3 : Int32)) + (1 : Int32))), (.int (fn1 ((128 : Int32) + ((p2 &&& (2147483647 : Int32)) % (1920 : Int32)))))])) (fun t k => XS.iloadN X4.here hx rfl (hb hby at_80) rfl k) ?_
      rcases Decidable.em ((fn1 ((128 : Int32) + ((p2 &&& (2147483647 : Int32)) % (1920 : Int32)))) = ((p1 &&& (3 : Int32)) + (1 : Int32))) with hc81 | hc81
      · refine Goes.st (U' := T4.setTop (mkF m 84 #[.val (.int p1), .val (.int p2), .val (.int ((p1 &&& (3 : Int32)) + (1 : Int32))), .val (.int (128 : Int32)), .val (.int (2047 : Int32)), .val (.int ((128 : Int32) + ((p2 &&& (2147483647 : Int32)) % (1920 : Int32))))] [])) (fun t k => XS.icmpNo X4.here hx rfl (hb hby at_81) rfl (teq hc81).2 k) ?_
        refine Goes.st (U' := T4.setTop (mkF m 85 #[.val (.int p1), .val (.int p2), .val (.int ((p1 &&& (3 : Int32)) + (1 : Int32))), .val (.int (128 : Int32)), .val (.int (2047 : Int32)), .val (.int ((128 : Int32) + ((p2 &&& (2147483647 : Int32)) % (1920 : Int32))))] [(.int (128 : Int32))])) (fun t k => XS.iloadN X4.here hx rfl (hb hby at_84) rfl k) ?_
        obtain ⟨_, _, ⟨T5, L5, k5, n5⟩, -, X5, ⟨Lc5, hQ5, l5, y5, z5⟩, st5⟩ := Jvm.LawKit.callS X4 hx (y := (⟨"com/example/chaise/chaise/formats/SourceText", "length", "(I)I"⟩ : MethodName)) hown (mvT hZ (hw _ (List.mem_of_getElem? (i := 1) rfl))) (mvT hZ (hw _ (List.mem_of_getElem? (i := 2) rfl))) (mvT hZ (hw _ (List.mem_of_getElem? (i := 3) rfl))) (mvT hZ (hw _ (List.mem_of_getElem? (i := 4) rfl))) (by decide) (backOf (W := 0) (rm1 l Z a0 hw [] (128 : Int32) h0 n0 Z0) hZ (hw _ (List.mem_of_getElem? (i := 4) rfl)) (hw _ (List.mem_of_getElem? (i := 3) rfl)) (by decide) (by decide)) (g := (mkF m 85 #[.val (.int p1), .val (.int p2), .val (.int ((p1 &&& (3 : Int32)) + (1 : Int32))), .val (.int (128 : Int32)), .val (.int (2047 : Int32)), .val (.int ((128 : Int32) + ((p2 &&& (2147483647 : Int32)) % (1920 : Int32))))] [(.int (128 : Int32))])) rfl (by rw [hml]; rfl) (argsL := [(.int (128 : Int32))]) (rest := []) (lenOf pd_0 rfl) rfl (by show 2 * 0 + _ ≤ _; exact Nat.le_of_eq rfl) (hb hby at_85) (fun _ _ => ⟨rfl, e4, (by decide : 0 + 0 ≤ _), (by decide : 0 + 0 ≤ _)⟩)
        dsimp only [Pt.U, Pt.locs, Pt.cells, Pt.slots] at X5 l5 y5 z5 st5 hQ5
        subst l5 y5 z5
        obtain ⟨rfl, N5q, e5⟩ := hQ5
        have N5 := Fr.app N4 N5q
        refine Goes.st (U' := T5.setTop (mkF m 88 #[.val (.int p1), .val (.int p2), .val (.int ((p1 &&& (3 : Int32)) + (1 : Int32))), .val (.int (128 : Int32)), .val (.int (2047 : Int32)), .val (.int ((128 : Int32) + ((p2 &&& (2147483647 : Int32)) % (1920 : Int32))))] [(.int (fn1 (128 : Int32)))])) st5 ?_
        refine Goes.st (U' := T5.setTop (mkF m 89 #[.val (.int p1), .val (.int p2), .val (.int ((p1 &&& (3 : Int32)) + (1 : Int32))), .val (.int (128 : Int32)), .val (.int (2047 : Int32)), .val (.int ((128 : Int32) + ((p2 &&& (2147483647 : Int32)) % (1920 : Int32))))] [(.int ((p1 &&& (3 : Int32)) + (1 : Int32))), (.int (fn1 (128 : Int32)))])) (fun t k => XS.iloadN X5.here hx rfl (hb hby at_88) rfl k) ?_
        rcases Decidable.em ((fn1 (128 : Int32)) = ((p1 &&& (3 : Int32)) + (1 : Int32))) with hc89 | hc89
        · refine Goes.st (U' := T5.setTop (mkF m 92 #[.val (.int p1), .val (.int p2), .val (.int ((p1 &&& (3 : Int32)) + (1 : Int32))), .val (.int (128 : Int32)), .val (.int (2047 : Int32)), .val (.int ((128 : Int32) + ((p2 &&& (2147483647 : Int32)) % (1920 : Int32))))] [])) (fun t k => XS.icmpNo X5.here hx rfl (hb hby at_89) rfl (teq hc89).2 k) ?_
          refine Goes.st (U' := T5.setTop (mkF m 94 #[.val (.int p1), .val (.int p2), .val (.int ((p1 &&& (3 : Int32)) + (1 : Int32))), .val (.int (128 : Int32)), .val (.int (2047 : Int32)), .val (.int ((128 : Int32) + ((p2 &&& (2147483647 : Int32)) % (1920 : Int32))))] [(.int (2047 : Int32))])) (fun t k => XS.iload X5.here hx rfl (hb hby at_92) rfl k) ?_
          obtain ⟨_, _, ⟨T6, L6, k6, n6⟩, -, X6, ⟨Lc6, hQ6, l6, y6, z6⟩, st6⟩ := Jvm.LawKit.callS X5 hx (y := (⟨"com/example/chaise/chaise/formats/SourceText", "length", "(I)I"⟩ : MethodName)) hown (mvT hZ (hw _ (List.mem_of_getElem? (i := 1) rfl))) (mvT hZ (hw _ (List.mem_of_getElem? (i := 2) rfl))) (mvT hZ (hw _ (List.mem_of_getElem? (i := 3) rfl))) (mvT hZ (hw _ (List.mem_of_getElem? (i := 4) rfl))) (by decide) (backOf (W := 0) (rm1 l Z a0 hw [] (2047 : Int32) h0 n0 Z0) hZ (hw _ (List.mem_of_getElem? (i := 4) rfl)) (hw _ (List.mem_of_getElem? (i := 3) rfl)) (by decide) (by decide)) (g := (mkF m 94 #[.val (.int p1), .val (.int p2), .val (.int ((p1 &&& (3 : Int32)) + (1 : Int32))), .val (.int (128 : Int32)), .val (.int (2047 : Int32)), .val (.int ((128 : Int32) + ((p2 &&& (2147483647 : Int32)) % (1920 : Int32))))] [(.int (2047 : Int32))])) rfl (by rw [hml]; rfl) (argsL := [(.int (2047 : Int32))]) (rest := []) (lenOf pd_0 rfl) rfl (by show 2 * 0 + _ ≤ _; exact Nat.le_of_eq rfl) (hb hby at_94) (fun _ _ => ⟨rfl, e5, (by decide : 0 + 0 ≤ _), (by decide : 0 + 0 ≤ _)⟩)
          dsimp only [Pt.U, Pt.locs, Pt.cells, Pt.slots] at X6 l6 y6 z6 st6 hQ6
          subst l6 y6 z6
          obtain ⟨rfl, N6q, e6⟩ := hQ6
          have N6 := Fr.app N5 N6q
          refine Goes.st (U' := T6.setTop (mkF m 97 #[.val (.int p1), .val (.int p2), .val (.int ((p1 &&& (3 : Int32)) + (1 : Int32))), .val (.int (128 : Int32)), .val (.int (2047 : Int32)), .val (.int ((128 : Int32) + ((p2 &&& (2147483647 : Int32)) % (1920 : Int32))))] [(.int (fn1 (2047 : Int32)))])) st6 ?_
          refine Goes.st (U' := T6.setTop (mkF m 98 #[.val (.int p1), .val (.int p2), .val (.int ((p1 &&& (3 : Int32)) + (1 : Int32))), .val (.int (128 : Int32)), .val (.int (2047 : Int32)), .val (.int ((128 : Int32) + ((p2 &&& (2147483647 : Int32)) % (1920 : Int32))))] [(.int ((p1 &&& (3 : Int32)) + (1 : Int32))), (.int (fn1 (2047 : Int32)))])) (fun t k => XS.iloadN X6.here hx rfl (hb hby at_97) rfl k) ?_
          rcases Decidable.em ((fn1 (2047 : Int32)) = ((p1 &&& (3 : Int32)) + (1 : Int32))) with hc98 | hc98
          · refine Goes.st (U' := T6.setTop (mkF m 101 #[.val (.int p1), .val (.int p2), .val (.int ((p1 &&& (3 : Int32)) + (1 : Int32))), .val (.int (128 : Int32)), .val (.int (2047 : Int32)), .val (.int ((128 : Int32) + ((p2 &&& (2147483647 : Int32)) % (1920 : Int32))))] [])) (fun t k => XS.icmpNo X6.here hx rfl (hb hby at_98) rfl (teq hc98).2 k) ?_
            refine Goes.st (U' := T6.setTop (mkF m 102 #[.val (.int p1), .val (.int p2), .val (.int ((p1 &&& (3 : Int32)) + (1 : Int32))), .val (.int (128 : Int32)), .val (.int (2047 : Int32)), .val (.int ((128 : Int32) + ((p2 &&& (2147483647 : Int32)) % (1920 : Int32))))] [(.int (1 : Int32))])) (fun t k => XS.iconst X6.here hx rfl (hb hby at_101) k) ?_
            refine Goes.st (U' := T6.setTop (mkF m 106 #[.val (.int p1), .val (.int p2), .val (.int ((p1 &&& (3 : Int32)) + (1 : Int32))), .val (.int (128 : Int32)), .val (.int (2047 : Int32)), .val (.int ((128 : Int32) + ((p2 &&& (2147483647 : Int32)) % (1920 : Int32))))] [(.int (1 : Int32))])) (fun t k => XS.goto X6.here hx rfl (pc0 := 102) (pc' := 106) rfl (hb hby at_102) (by decide) (by decide) k) ?_
            refine Goes.retZ X6 hx (BodyLoose.notSynchronized Bd) Bd.returns (hb hby at_106) rfl (by decide) (by decide) ?_
            show Q0 Z p1 p2 h0 n0 _ T6.heap _
            rw [e6]
            exact ⟨(congrArg some (congrArg _ (by unfold fn0; rw [if_neg hc8]; rw [if_pos hc22]; rw [if_pos hc81]; rw [if_pos hc89]; rw [if_pos hc98]))), N6, rfl⟩
          · refine Goes.st (U' := T6.setTop (mkF m 105 #[.val (.int p1), .val (.int p2), .val (.int ((p1 &&& (3 : Int32)) + (1 : Int32))), .val (.int (128 : Int32)), .val (.int (2047 : Int32)), .val (.int ((128 : Int32) + ((p2 &&& (2147483647 : Int32)) % (1920 : Int32))))] [])) (fun t k => XS.icmpYes X6.here hx rfl (pc0 := 98) (pc' := 105) rfl (hb hby at_98) rfl (feq hc98).2 (by decide) (by decide) k) ?_
            refine Goes.st (U' := T6.setTop (mkF m 106 #[.val (.int p1), .val (.int p2), .val (.int ((p1 &&& (3 : Int32)) + (1 : Int32))), .val (.int (128 : Int32)), .val (.int (2047 : Int32)), .val (.int ((128 : Int32) + ((p2 &&& (2147483647 : Int32)) % (1920 : Int32))))] [(.int (0 : Int32))])) (fun t k => XS.iconst X6.here hx rfl (hb hby at_105) k) ?_
            refine Goes.retZ X6 hx (BodyLoose.notSynchronized Bd) Bd.returns (hb hby at_106) rfl (by decide) (by decide) ?_
            show Q0 Z p1 p2 h0 n0 _ T6.heap _
            rw [e6]
            exact ⟨(congrArg some (congrArg _ (by unfold fn0; rw [if_neg hc8]; rw [if_pos hc22]; rw [if_pos hc81]; rw [if_pos hc89]; rw [if_neg hc98]))), N6, rfl⟩
        · refine Goes.st (U' := T5.setTop (mkF m 105 #[.val (.int p1), .val (.int p2), .val (.int ((p1 &&& (3 : Int32)) + (1 : Int32))), .val (.int (128 : Int32)), .val (.int (2047 : Int32)), .val (.int ((128 : Int32) + ((p2 &&& (2147483647 : Int32)) % (1920 : Int32))))] [])) (fun t k => XS.icmpYes X5.here hx rfl (pc0 := 89) (pc' := 105) rfl (hb hby at_89) rfl (feq hc89).2 (by decide) (by decide) k) ?_
          refine Goes.st (U' := T5.setTop (mkF m 106 #[.val (.int p1), .val (.int p2), .val (.int ((p1 &&& (3 : Int32)) + (1 : Int32))), .val (.int (128 : Int32)), .val (.int (2047 : Int32)), .val (.int ((128 : Int32) + ((p2 &&& (2147483647 : Int32)) % (1920 : Int32))))] [(.int (0 : Int32))])) (fun t k => XS.iconst X5.here hx rfl (hb hby at_105) k) ?_
          refine Goes.retZ X5 hx (BodyLoose.notSynchronized Bd) Bd.returns (hb hby at_106) rfl (by decide) (by decide) ?_
          show Q0 Z p1 p2 h0 n0 _ T5.heap _
          rw [e5]
          exact ⟨(congrArg some (congrArg _ (by unfold fn0; rw [if_neg hc8]; rw [if_pos hc22]; rw [if_pos hc81]; rw [if_neg hc89]))), N5, rfl⟩
      · refine Goes.st (U' := T4.setTop (mkF m 105 #[.val (.int p1), .val (.int p2), .val (.int ((p1 &&& (3 : Int32)) + (1 : Int32))), .val (.int (128 : Int32)), .val (.int (2047 : Int32)), .val (.int ((128 : Int32) + ((p2 &&& (2147483647 : Int32)) % (1920 : Int32))))] [])) (fun t k => XS.icmpYes X4.here hx rfl (pc0 := 81) (pc' := 105) rfl (hb hby at_81) rfl (feq hc81).2 (by decide) (by decide) k) ?_
        refine Goes.st (U' := T4.setTop (mkF m 106 #[.val (.int p1), .val (.int p2), .val (.int ((p1 &&& (3 : Int32)) + (1 : Int32))), .val (.int (128 : Int32)), .val (.int (2047 : Int32)), .val (.int ((128 : Int32) + ((p2 &&& (2147483647 : Int32)) % (1920 : Int32))))] [(.int (0 : Int32))])) (fun t k => XS.iconst X4.here hx rfl (hb hby at_105) k) ?_
        refine Goes.retZ X4 hx (BodyLoose.notSynchronized Bd) Bd.returns (hb hby at_106) rfl (by decide) (by decide) ?_
        show Q0 Z p1 p2 h0 n0 _ T4.heap _
        rw [e4]
        exact ⟨(congrArg some (congrArg _ (by unfold fn0; rw [if_neg hc8]; rw [if_pos hc22]; rw [if_neg hc81]))), N4, rfl⟩
    · refine Goes.st (U' := s₁.setTop (mkF m 37 #[.val (.int p1), .val (.int p2), .val (.int ((p1 &&& (3 : Int32)) + (1 : Int32))), .unset, .unset, .unset] [])) (fun t k => XS.icmpYes X0.here hx rfl (pc0 := 22) (pc' := 37) rfl (hb hby at_22) rfl (feq hc22).2 (by decide) (by decide) k) ?_
      refine Goes.st (U' := s₁.setTop (mkF m 38 #[.val (.int p1), .val (.int p2), .val (.int ((p1 &&& (3 : Int32)) + (1 : Int32))), .unset, .unset, .unset] [(.int ((p1 &&& (3 : Int32)) + (1 : Int32)))])) (fun t k => XS.iloadN X0.here hx rfl (hb hby at_37) rfl k) ?_
      refine Goes.st (U' := s₁.setTop (mkF m 39 #[.val (.int p1), .val (.int p2), .val (.int ((p1 &&& (3 : Int32)) + (1 : Int32))), .unset, .unset, .unset] [(.int (3 : Int32)), (.int ((p1 &&& (3 : Int32)) + (1 : Int32)))])) (fun t k => XS.iconst X0.here hx rfl (hb hby at_38) k) ?_
      rcases Decidable.em (((p1 &&& (3 : Int32)) + (1 : Int32)) = (3 : Int32)) with hc39 | hc39
      · refine Goes.st (U' := s₁.setTop (mkF m 42 #[.val (.int p1), .val (.int p2), .val (.int ((p1 &&& (3 : Int32)) + (1 : Int32))), .unset, .unset, .unset] [])) (fun t k => XS.icmpNo X0.here hx rfl (hb hby at_39) rfl (teq hc39).2 k) ?_
        refine Goes.st (U' := s₁.setTop (mkF m 45 #[.val (.int p1), .val (.int p2), .val (.int ((p1 &&& (3 : Int32)) + (1 : Int32))), .unset, .unset, .unset] [(.int (2048 : Int32))])) (fun t k => XS.sipush X0.here hx rfl (hb hby at_42) k) ?_
        refine Goes.st (U' := s₁.setTop (mkF m 46 #[.val (.int p1), .val (.int p2), .val (.int ((p1 &&& (3 : Int32)) + (1 : Int32))), .val (.int (2048 : Int32)), .unset, .unset] [])) (fun t k => XS.istoreN X0.here hx rfl (hb hby at_45) rfl (l' := #[.val (.int p1), .val (.int p2), .val (.int ((p1 &&& (3 : Int32)) + (1 : Int32))), .val (.int (2048 : Int32)), .unset, .unset]) rfl k) ?_
        refine Goes.st (U' := s₁.setTop (mkF m 48 #[.val (.int p1), .val (.int p2), .val (.int ((p1 &&& (3 : Int32)) + (1 : Int32))), .val (.int (2048 : Int32)), .unset, .unset] [(.int (65535 : Int32))])) (fun t k => X0.ldcInt hx hown (mvT hZ (hw _ (List.mem_of_getElem? (i := 5) rfl))) (g := (mkF m 46 #[.val (.int p1), .val (.int p2), .val (.int ((p1 &&& (3 : Int32)) + (1 : Int32))), .val (.int (2048 : Int32)), .unset, .unset] [])) rfl (hb hby at_46) t k) ?_
        refine Goes.st (U' := s₁.setTop (mkF m 50 #[.val (.int p1), .val (.int p2), .val (.int ((p1 &&& (3 : Int32)) + (1 : Int32))), .val (.int (2048 : Int32)), .val (.int (65535 : Int32)), .unset] [])) (fun t k => XS.istore X0.here hx rfl (hb hby at_48) rfl (l' := #[.val (.int p1), .val (.int p2), .val (.int ((p1 &&& (3 : Int32)) + (1 : Int32))), .val (.int (2048 : Int32)), .val (.int (65535 : Int32)), .unset]) rfl k) ?_
        refine Goes.st (U' := s₁.setTop (mkF m 60 #[.val (.int p1), .val (.int p2), .val (.int ((p1 &&& (3 : Int32)) + (1 : Int32))), .val (.int (2048 : Int32)), .val (.int (65535 : Int32)), .unset] [])) (fun t k => XS.goto X0.here hx rfl (pc0 := 50) (pc' := 60) rfl (hb hby at_50) (by decide) (by decide) k) ?_
        refine Goes.st (U' := s₁.setTop (mkF m 61 #[.val (.int p1), .val (.int p2), .val (.int ((p1 &&& (3 : Int32)) + (1 : Int32))), .val (.int (2048 : Int32)), .val (.int (65535 : Int32)), .unset] [(.int (2048 : Int32))])) (fun t k => XS.iloadN X0.here hx rfl (hb hby at_60) rfl k) ?_
        refine Goes.st (U' := s₁.setTop (mkF m 62 #[.val (.int p1), .val (.int p2), .val (.int ((p1 &&& (3 : Int32)) + (1 : Int32))), .val (.int (2048 : Int32)), .val (.int (65535 : Int32)), .unset] [(.int p2), (.int (2048 : Int32))])) (fun t k => XS.iloadN X0.here hx rfl (hb hby at_61) rfl k) ?_
        refine Goes.st (U' := s₁.setTop (mkF m 64 #[.val (.int p1), .val (.int p2), .val (.int ((p1 &&& (3 : Int32)) + (1 : Int32))), .val (.int (2048 : Int32)), .val (.int (65535 : Int32)), .unset] [(.int (2147483647 : Int32)), (.int p2), (.int (2048 : Int32))])) (fun t k => X0.ldcInt hx hown (mvT hZ (hw _ (List.mem_of_getElem? (i := 0) rfl))) (g := (mkF m 62 #[.val (.int p1), .val (.int p2), .val (.int ((p1 &&& (3 : Int32)) + (1 : Int32))), .val (.int (2048 : Int32)), .val (.int (65535 : Int32)), .unset] [(.int p2), (.int (2048 : Int32))])) rfl (hb hby at_62) t k) ?_
        refine Goes.st (U' := s₁.setTop (mkF m 65 #[.val (.int p1), .val (.int p2), .val (.int ((p1 &&& (3 : Int32)) + (1 : Int32))), .val (.int (2048 : Int32)), .val (.int (65535 : Int32)), .unset] [(.int (p2 &&& (2147483647 : Int32))), (.int (2048 : Int32))])) (fun t k => XS.iand X0.here hx rfl (hb hby at_64) rfl k) ?_
        refine Goes.st (U' := s₁.setTop (mkF m 67 #[.val (.int p1), .val (.int p2), .val (.int ((p1 &&& (3 : Int32)) + (1 : Int32))), .val (.int (2048 : Int32)), .val (.int (65535 : Int32)), .unset] [(.int (65535 : Int32)), (.int (p2 &&& (2147483647 : Int32))), (.int (2048 : Int32))])) (fun t k => XS.iload X0.here hx rfl (hb hby at_65) rfl k) ?_
        refine Goes.st (U' := s₁.setTop (mkF m 68 #[.val (.int p1), .val (.int p2), .val (.int ((p1 &&& (3 : Int32)) + (1 : Int32))), .val (.int (2048 : Int32)), .val (.int (65535 : Int32)), .unset] [(.int (2048 : Int32)), (.int (65535 : Int32)), (.int (p2 &&& (2147483647 : Int32))), (.int (2048 : Int32))])) (fun t k => XS.iloadN X0.here hx rfl (hb hby at_67) rfl k) ?_
        refine Goes.st (U' := s₁.setTop (mkF m 69 #[.val (.int p1), .val (.int p2), .val (.int ((p1 &&& (3 : Int32)) + (1 : Int32))), .val (.int (2048 : Int32)), .val (.int (65535 : Int32)), .unset] [(.int (63487 : Int32)), (.int (p2 &&& (2147483647 : Int32))), (.int (2048 : Int32))])) (fun t k => XS.isub X0.here hx rfl (hb hby at_68) rfl k) ?_
        refine Goes.st (U' := s₁.setTop (mkF m 70 #[.val (.int p1), .val (.int p2), .val (.int ((p1 &&& (3 : Int32)) + (1 : Int32))), .val (.int (2048 : Int32)), .val (.int (65535 : Int32)), .unset] [(.int (1 : Int32)), (.int (63487 : Int32)), (.int (p2 &&& (2147483647 : Int32))), (.int (2048 : Int32))])) (fun t k => XS.iconst X0.here hx rfl (hb hby at_69) k) ?_
        refine Goes.st (U' := s₁.setTop (mkF m 71 #[.val (.int p1), .val (.int p2), .val (.int ((p1 &&& (3 : Int32)) + (1 : Int32))), .val (.int (2048 : Int32)), .val (.int (65535 : Int32)), .unset] [(.int (63488 : Int32)), (.int (p2 &&& (2147483647 : Int32))), (.int (2048 : Int32))])) (fun t k => XS.iadd X0.here hx rfl (hb hby at_70) rfl k) ?_
        refine Goes.st (U' := s₁.setTop (mkF m 72 #[.val (.int p1), .val (.int p2), .val (.int ((p1 &&& (3 : Int32)) + (1 : Int32))), .val (.int (2048 : Int32)), .val (.int (65535 : Int32)), .unset] [(.int ((p2 &&& (2147483647 : Int32)) % (63488 : Int32))), (.int (2048 : Int32))])) (fun t k => iremM X0 hx rfl (hb hby at_71) rfl (by decide +kernel : ¬ ((63488 : Int32) = (0 : Int32))) k) ?_
        refine Goes.st (U' := s₁.setTop (mkF m 73 #[.val (.int p1), .val (.int p2), .val (.int ((p1 &&& (3 : Int32)) + (1 : Int32))), .val (.int (2048 : Int32)), .val (.int (65535 : Int32)), .unset] [(.int ((2048 : Int32) + ((p2 &&& (2147483647 : Int32)) % (63488 : Int32))))])) (fun t k => XS.iadd X0.here hx rfl (hb hby at_72) rfl k) ?_
        refine Goes.st (U' := s₁.setTop (mkF m 75 #[.val (.int p1), .val (.int p2), .val (.int ((p1 &&& (3 : Int32)) + (1 : Int32))), .val (.int (2048 : Int32)), .val (.int (65535 : Int32)), .val (.int ((2048 : Int32) + ((p2 &&& (2147483647 : Int32)) % (63488 : Int32))))] [])) (fun t k => XS.istore X0.here hx rfl (hb hby at_73) rfl (l' := #[.val (.int p1), .val (.int p2), .val (.int ((p1 &&& (3 : Int32)) + (1 : Int32))), .val (.int (2048 : Int32)), .val (.int (65535 : Int32)), .val (.int ((2048 : Int32) + ((p2 &&& (2147483647 : Int32)) % (63488 : Int32))))]) rfl k) ?_
        refine Goes.st (U' := s₁.setTop (mkF m 77 #[.val (.int p1), .val (.int p2), .val (.int ((p1 &&& (3 : Int32)) + (1 : Int32))), .val (.int (2048 : Int32)), .val (.int (65535 : Int32)), .val (.int ((2048 : Int32) + ((p2 &&& (2147483647 : Int32)) % (63488 : Int32))))] [(.int ((2048 : Int32) + ((p2 &&& (2147483647 : Int32)) % (63488 : Int32))))])) (fun t k => XS.iload X0.here hx rfl (hb hby at_75) rfl k) ?_
        obtain ⟨_, _, ⟨T7, L7, k7, n7⟩, -, X7, ⟨Lc7, hQ7, l7, y7, z7⟩, st7⟩ := Jvm.LawKit.callS X0 hx (y := (⟨"com/example/chaise/chaise/formats/SourceText", "length", "(I)I"⟩ : MethodName)) hown (mvT hZ (hw _ (List.mem_of_getElem? (i := 1) rfl))) (mvT hZ (hw _ (List.mem_of_getElem? (i := 2) rfl))) (mvT hZ (hw _ (List.mem_of_getElem? (i := 3) rfl))) (mvT hZ (hw _ (List.mem_of_getElem? (i := 4) rfl))) (by decide) (backOf (W := 0) (rm1 l Z a0 hw [] ((2048 : Int32) + ((p2 &&& (2147483647 : Int32)) % (63488 : Int32))) h0 n0 Z0) hZ (hw _ (List.mem_of_getElem? (i := 4) rfl)) (hw _ (List.mem_of_getElem? (i := 3) rfl)) (by decide) (by decide)) (g := (mkF m 77 #[.val (.int p1), .val (.int p2), .val (.int ((p1 &&& (3 : Int32)) + (1 : Int32))), .val (.int (2048 : Int32)), .val (.int (65535 : Int32)), .val (.int ((2048 : Int32) + ((p2 &&& (2147483647 : Int32)) % (63488 : Int32))))] [(.int ((2048 : Int32) + ((p2 &&& (2147483647 : Int32)) % (63488 : Int32))))])) rfl (by rw [hml]; rfl) (argsL := [(.int ((2048 : Int32) + ((p2 &&& (2147483647 : Int32)) % (63488 : Int32))))]) (rest := []) (lenOf pd_0 rfl) rfl (by show 2 * 0 + _ ≤ _; exact Nat.le_of_eq rfl) (hb hby at_77) (fun _ _ => ⟨rfl, e0, (by decide : 0 + 0 ≤ _), (by decide : 0 + 0 ≤ _)⟩)
        dsimp only [Pt.U, Pt.locs, Pt.cells, Pt.slots] at X7 l7 y7 z7 st7 hQ7
        subst l7 y7 z7
        obtain ⟨rfl, N7q, e7⟩ := hQ7
        have N7 := Fr.app N0 N7q
        refine Goes.st (U' := T7.setTop (mkF m 80 #[.val (.int p1), .val (.int p2), .val (.int ((p1 &&& (3 : Int32)) + (1 : Int32))), .val (.int (2048 : Int32)), .val (.int (65535 : Int32)), .val (.int ((2048 : Int32) + ((p2 &&& (2147483647 : Int32)) % (63488 : Int32))))] [(.int (fn1 ((2048 : Int32) + ((p2 &&& (2147483647 : Int32)) % (63488 : Int32)))))])) st7 ?_
        refine Goes.st (U' := T7.setTop (mkF m 81 #[.val (.int p1), .val (.int p2), .val (.int ((p1 &&& (3 : Int32)) + (1 : Int32))), .val (.int (2048 : Int32)), .val (.int (65535 : Int32)), .val (.int ((2048 : Int32) + ((p2 &&& (2147483647 : Int32)) % (63488 : Int32))))] [(.int ((p1 &&& (3 : Int32)) + (1 : Int32))), (.int (fn1 ((2048 : Int32) + ((p2 &&& (2147483647 : Int32)) % (63488 : Int32)))))])) (fun t k => XS.iloadN X7.here hx rfl (hb hby at_80) rfl k) ?_
        rcases Decidable.em ((fn1 ((2048 : Int32) + ((p2 &&& (2147483647 : Int32)) % (63488 : Int32)))) = ((p1 &&& (3 : Int32)) + (1 : Int32))) with hc81 | hc81
        · refine Goes.st (U' := T7.setTop (mkF m 84 #[.val (.int p1), .val (.int p2), .val (.int ((p1 &&& (3 : Int32)) + (1 : Int32))), .val (.int (2048 : Int32)), .val (.int (65535 : Int32)), .val (.int ((2048 : Int32) + ((p2 &&& (2147483647 : Int32)) % (63488 : Int32))))] [])) (fun t k => XS.icmpNo X7.here hx rfl (hb hby at_81) rfl (teq hc81).2 k) ?_
          refine Goes.st (U' := T7.setTop (mkF m 85 #[.val (.int p1), .val (.int p2), .val (.int ((p1 &&& (3 : Int32)) + (1 : Int32))), .val (.int (2048 : Int32)), .val (.int (65535 : Int32)), .val (.int ((2048 : Int32) + ((p2 &&& (2147483647 : Int32)) % (63488 : Int32))))] [(.int (2048 : Int32))])) (fun t k => XS.iloadN X7.here hx rfl (hb hby at_84) rfl k) ?_
          obtain ⟨_, _, ⟨T8, L8, k8, n8⟩, -, X8, ⟨Lc8, hQ8, l8, y8, z8⟩, st8⟩ := Jvm.LawKit.callS X7 hx (y := (⟨"com/example/chaise/chaise/formats/SourceText", "length", "(I)I"⟩ : MethodName)) hown (mvT hZ (hw _ (List.mem_of_getElem? (i := 1) rfl))) (mvT hZ (hw _ (List.mem_of_getElem? (i := 2) rfl))) (mvT hZ (hw _ (List.mem_of_getElem? (i := 3) rfl))) (mvT hZ (hw _ (List.mem_of_getElem? (i := 4) rfl))) (by decide) (backOf (W := 0) (rm1 l Z a0 hw [] (2048 : Int32) h0 n0 Z0) hZ (hw _ (List.mem_of_getElem? (i := 4) rfl)) (hw _ (List.mem_of_getElem? (i := 3) rfl)) (by decide) (by decide)) (g := (mkF m 85 #[.val (.int p1), .val (.int p2), .val (.int ((p1 &&& (3 : Int32)) + (1 : Int32))), .val (.int (2048 : Int32)), .val (.int (65535 : Int32)), .val (.int ((2048 : Int32) + ((p2 &&& (2147483647 : Int32)) % (63488 : Int32))))] [(.int (2048 : Int32))])) rfl (by rw [hml]; rfl) (argsL := [(.int (2048 : Int32))]) (rest := []) (lenOf pd_0 rfl) rfl (by show 2 * 0 + _ ≤ _; exact Nat.le_of_eq rfl) (hb hby at_85) (fun _ _ => ⟨rfl, e7, (by decide : 0 + 0 ≤ _), (by decide : 0 + 0 ≤ _)⟩)
          dsimp only [Pt.U, Pt.locs, Pt.cells, Pt.slots] at X8 l8 y8 z8 st8 hQ8
          subst l8 y8 z8
          obtain ⟨rfl, N8q, e8⟩ := hQ8
          have N8 := Fr.app N7 N8q
          refine Goes.st (U' := T8.setTop (mkF m 88 #[.val (.int p1), .val (.int p2), .val (.int ((p1 &&& (3 : Int32)) + (1 : Int32))), .val (.int (2048 : Int32)), .val (.int (65535 : Int32)), .val (.int ((2048 : Int32) + ((p2 &&& (2147483647 : Int32)) % (63488 : Int32))))] [(.int (fn1 (2048 : Int32)))])) st8 ?_
          refine Goes.st (U' := T8.setTop (mkF m 89 #[.val (.int p1), .val (.int p2), .val (.int ((p1 &&& (3 : Int32)) + (1 : Int32))), .val (.int (2048 : Int32)), .val (.int (65535 : Int32)), .val (.int ((2048 : Int32) + ((p2 &&& (2147483647 : Int32)) % (63488 : Int32))))] [(.int ((p1 &&& (3 : Int32)) + (1 : Int32))), (.int (fn1 (2048 : Int32)))])) (fun t k => XS.iloadN X8.here hx rfl (hb hby at_88) rfl k) ?_
          rcases Decidable.em ((fn1 (2048 : Int32)) = ((p1 &&& (3 : Int32)) + (1 : Int32))) with hc89 | hc89
          · refine Goes.st (U' := T8.setTop (mkF m 92 #[.val (.int p1), .val (.int p2), .val (.int ((p1 &&& (3 : Int32)) + (1 : Int32))), .val (.int (2048 : Int32)), .val (.int (65535 : Int32)), .val (.int ((2048 : Int32) + ((p2 &&& (2147483647 : Int32)) % (63488 : Int32))))] [])) (fun t k => XS.icmpNo X8.here hx rfl (hb hby at_89) rfl (teq hc89).2 k) ?_
            refine Goes.st (U' := T8.setTop (mkF m 94 #[.val (.int p1), .val (.int p2), .val (.int ((p1 &&& (3 : Int32)) + (1 : Int32))), .val (.int (2048 : Int32)), .val (.int (65535 : Int32)), .val (.int ((2048 : Int32) + ((p2 &&& (2147483647 : Int32)) % (63488 : Int32))))] [(.int (65535 : Int32))])) (fun t k => XS.iload X8.here hx rfl (hb hby at_92) rfl k) ?_
            obtain ⟨_, _, ⟨T9, L9, k9, n9⟩, -, X9, ⟨Lc9, hQ9, l9, y9, z9⟩, st9⟩ := Jvm.LawKit.callS X8 hx (y := (⟨"com/example/chaise/chaise/formats/SourceText", "length", "(I)I"⟩ : MethodName)) hown (mvT hZ (hw _ (List.mem_of_getElem? (i := 1) rfl))) (mvT hZ (hw _ (List.mem_of_getElem? (i := 2) rfl))) (mvT hZ (hw _ (List.mem_of_getElem? (i := 3) rfl))) (mvT hZ (hw _ (List.mem_of_getElem? (i := 4) rfl))) (by decide) (backOf (W := 0) (rm1 l Z a0 hw [] (65535 : Int32) h0 n0 Z0) hZ (hw _ (List.mem_of_getElem? (i := 4) rfl)) (hw _ (List.mem_of_getElem? (i := 3) rfl)) (by decide) (by decide)) (g := (mkF m 94 #[.val (.int p1), .val (.int p2), .val (.int ((p1 &&& (3 : Int32)) + (1 : Int32))), .val (.int (2048 : Int32)), .val (.int (65535 : Int32)), .val (.int ((2048 : Int32) + ((p2 &&& (2147483647 : Int32)) % (63488 : Int32))))] [(.int (65535 : Int32))])) rfl (by rw [hml]; rfl) (argsL := [(.int (65535 : Int32))]) (rest := []) (lenOf pd_0 rfl) rfl (by show 2 * 0 + _ ≤ _; exact Nat.le_of_eq rfl) (hb hby at_94) (fun _ _ => ⟨rfl, e8, (by decide : 0 + 0 ≤ _), (by decide : 0 + 0 ≤ _)⟩)
            dsimp only [Pt.U, Pt.locs, Pt.cells, Pt.slots] at X9 l9 y9 z9 st9 hQ9
            subst l9 y9 z9
            obtain ⟨rfl, N9q, e9⟩ := hQ9
            have N9 := Fr.app N8 N9q
            refine Goes.st (U' := T9.setTop (mkF m 97 #[.val (.int p1), .val (.int p2), .val (.int ((p1 &&& (3 : Int32)) + (1 : Int32))), .val (.int (2048 : Int32)), .val (.int (65535 : Int32)), .val (.int ((2048 : Int32) + ((p2 &&& (2147483647 : Int32)) % (63488 : Int32))))] [(.int (fn1 (65535 : Int32)))])) st9 ?_
            refine Goes.st (U' := T9.setTop (mkF m 98 #[.val (.int p1), .val (.int p2), .val (.int ((p1 &&& (3 : Int32)) + (1 : Int32))), .val (.int (2048 : Int32)), .val (.int (65535 : Int32)), .val (.int ((2048 : Int32) + ((p2 &&& (2147483647 : Int32)) % (63488 : Int32))))] [(.int ((p1 &&& (3 : Int32)) + (1 : Int32))), (.int (fn1 (65535 : Int32)))])) (fun t k => XS.iloadN X9.here hx rfl (hb hby at_97) rfl k) ?_
            rcases Decidable.em ((fn1 (65535 : Int32)) = ((p1 &&& (3 : Int32)) + (1 : Int32))) with hc98 | hc98
            · refine Goes.st (U' := T9.setTop (mkF m 101 #[.val (.int p1), .val (.int p2), .val (.int ((p1 &&& (3 : Int32)) + (1 : Int32))), .val (.int (2048 : Int32)), .val (.int (65535 : Int32)), .val (.int ((2048 : Int32) + ((p2 &&& (2147483647 : Int32)) % (63488 : Int32))))] [])) (fun t k => XS.icmpNo X9.here hx rfl (hb hby at_98) rfl (teq hc98).2 k) ?_
              refine Goes.st (U' := T9.setTop (mkF m 102 #[.val (.int p1), .val (.int p2), .val (.int ((p1 &&& (3 : Int32)) + (1 : Int32))), .val (.int (2048 : Int32)), .val (.int (65535 : Int32)), .val (.int ((2048 : Int32) + ((p2 &&& (2147483647 : Int32)) % (63488 : Int32))))] [(.int (1 : Int32))])) (fun t k => XS.iconst X9.here hx rfl (hb hby at_101) k) ?_
              refine Goes.st (U' := T9.setTop (mkF m 106 #[.val (.int p1), .val (.int p2), .val (.int ((p1 &&& (3 : Int32)) + (1 : Int32))), .val (.int (2048 : Int32)), .val (.int (65535 : Int32)), .val (.int ((2048 : Int32) + ((p2 &&& (2147483647 : Int32)) % (63488 : Int32))))] [(.int (1 : Int32))])) (fun t k => XS.goto X9.here hx rfl (pc0 := 102) (pc' := 106) rfl (hb hby at_102) (by decide) (by decide) k) ?_
              refine Goes.retZ X9 hx (BodyLoose.notSynchronized Bd) Bd.returns (hb hby at_106) rfl (by decide) (by decide) ?_
              show Q0 Z p1 p2 h0 n0 _ T9.heap _
              rw [e9]
              exact ⟨(congrArg some (congrArg _ (by unfold fn0; rw [if_neg hc8]; rw [if_neg hc22]; rw [if_pos hc39]; rw [if_pos hc81]; rw [if_pos hc89]; rw [if_pos hc98]))), N9, rfl⟩
            · refine Goes.st (U' := T9.setTop (mkF m 105 #[.val (.int p1), .val (.int p2), .val (.int ((p1 &&& (3 : Int32)) + (1 : Int32))), .val (.int (2048 : Int32)), .val (.int (65535 : Int32)), .val (.int ((2048 : Int32) + ((p2 &&& (2147483647 : Int32)) % (63488 : Int32))))] [])) (fun t k => XS.icmpYes X9.here hx rfl (pc0 := 98) (pc' := 105) rfl (hb hby at_98) rfl (feq hc98).2 (by decide) (by decide) k) ?_
              refine Goes.st (U' := T9.setTop (mkF m 106 #[.val (.int p1), .val (.int p2), .val (.int ((p1 &&& (3 : Int32)) + (1 : Int32))), .val (.int (2048 : Int32)), .val (.int (65535 : Int32)), .val (.int ((2048 : Int32) + ((p2 &&& (2147483647 : Int32)) % (63488 : Int32))))] [(.int (0 : Int32))])) (fun t k => XS.iconst X9.here hx rfl (hb hby at_105) k) ?_
              refine Goes.retZ X9 hx (BodyLoose.notSynchronized Bd) Bd.returns (hb hby at_106) rfl (by decide) (by decide) ?_
              show Q0 Z p1 p2 h0 n0 _ T9.heap _
              rw [e9]
              exact ⟨(congrArg some (congrArg _ (by unfold fn0; rw [if_neg hc8]; rw [if_neg hc22]; rw [if_pos hc39]; rw [if_pos hc81]; rw [if_pos hc89]; rw [if_neg hc98]))), N9, rfl⟩
          · refine Goes.st (U' := T8.setTop (mkF m 105 #[.val (.int p1), .val (.int p2), .val (.int ((p1 &&& (3 : Int32)) + (1 : Int32))), .val (.int (2048 : Int32)), .val (.int (65535 : Int32)), .val (.int ((2048 : Int32) + ((p2 &&& (2147483647 : Int32)) % (63488 : Int32))))] [])) (fun t k => XS.icmpYes X8.here hx rfl (pc0 := 89) (pc' := 105) rfl (hb hby at_89) rfl (feq hc89).2 (by decide) (by decide) k) ?_
            refine Goes.st (U' := T8.setTop (mkF m 106 #[.val (.int p1), .val (.int p2), .val (.int ((p1 &&& (3 : Int32)) + (1 : Int32))), .val (.int (2048 : Int32)), .val (.int (65535 : Int32)), .val (.int ((2048 : Int32) + ((p2 &&& (2147483647 : Int32)) % (63488 : Int32))))] [(.int (0 : Int32))])) (fun t k => XS.iconst X8.here hx rfl (hb hby at_105) k) ?_
            refine Goes.retZ X8 hx (BodyLoose.notSynchronized Bd) Bd.returns (hb hby at_106) rfl (by decide) (by decide) ?_
            show Q0 Z p1 p2 h0 n0 _ T8.heap _
            rw [e8]
            exact ⟨(congrArg some (congrArg _ (by unfold fn0; rw [if_neg hc8]; rw [if_neg hc22]; rw [if_pos hc39]; rw [if_pos hc81]; rw [if_neg hc89]))), N8, rfl⟩
        · refine Goes.st (U' := T7.setTop (mkF m 105 #[.val (.int p1), .val (.int p2), .val (.int ((p1 &&& (3 : Int32)) + (1 : Int32))), .val (.int (2048 : Int32)), .val (.int (65535 : Int32)), .val (.int ((2048 : Int32) + ((p2 &&& (2147483647 : Int32)) % (63488 : Int32))))] [])) (fun t k => XS.icmpYes X7.here hx rfl (pc0 := 81) (pc' := 105) rfl (hb hby at_81) rfl (feq hc81).2 (by decide) (by decide) k) ?_
          refine Goes.st (U' := T7.setTop (mkF m 106 #[.val (.int p1), .val (.int p2), .val (.int ((p1 &&& (3 : Int32)) + (1 : Int32))), .val (.int (2048 : Int32)), .val (.int (65535 : Int32)), .val (.int ((2048 : Int32) + ((p2 &&& (2147483647 : Int32)) % (63488 : Int32))))] [(.int (0 : Int32))])) (fun t k => XS.iconst X7.here hx rfl (hb hby at_105) k) ?_
          refine Goes.retZ X7 hx (BodyLoose.notSynchronized Bd) Bd.returns (hb hby at_106) rfl (by decide) (by decide) ?_
          show Q0 Z p1 p2 h0 n0 _ T7.heap _
          rw [e7]
          exact ⟨(congrArg some (congrArg _ (by unfold fn0; rw [if_neg hc8]; rw [if_neg hc22]; rw [if_pos hc39]; rw [if_neg hc81]))), N7, rfl⟩
      · refine Goes.st (U' := s₁.setTop (mkF m 53 #[.val (.int p1), .val (.int p2), .val (.int ((p1 &&& (3 : Int32)) + (1 : Int32))), .unset, .unset, .unset] [])) (fun t k => XS.icmpYes X0.here hx rfl (pc0 := 39) (pc' := 53) rfl (hb hby at_39) rfl (feq hc39).2 (by decide) (by decide) k) ?_
        refine Goes.st (U' := s₁.setTop (mkF m 55 #[.val (.int p1), .val (.int p2), .val (.int ((p1 &&& (3 : Int32)) + (1 : Int32))), .unset, .unset, .unset] [(.int (65536 : Int32))])) (fun t k => X0.ldcInt hx hown (mvT hZ (hw _ (List.mem_of_getElem? (i := 7) rfl))) (g := (mkF m 53 #[.val (.int p1), .val (.int p2), .val (.int ((p1 &&& (3 : Int32)) + (1 : Int32))), .unset, .unset, .unset] [])) rfl (hb hby at_53) t k) ?_
        refine Goes.st (U' := s₁.setTop (mkF m 56 #[.val (.int p1), .val (.int p2), .val (.int ((p1 &&& (3 : Int32)) + (1 : Int32))), .val (.int (65536 : Int32)), .unset, .unset] [])) (fun t k => XS.istoreN X0.here hx rfl (hb hby at_55) rfl (l' := #[.val (.int p1), .val (.int p2), .val (.int ((p1 &&& (3 : Int32)) + (1 : Int32))), .val (.int (65536 : Int32)), .unset, .unset]) rfl k) ?_
        refine Goes.st (U' := s₁.setTop (mkF m 58 #[.val (.int p1), .val (.int p2), .val (.int ((p1 &&& (3 : Int32)) + (1 : Int32))), .val (.int (65536 : Int32)), .unset, .unset] [(.int (1114111 : Int32))])) (fun t k => X0.ldcInt hx hown (mvT hZ (hw _ (List.mem_of_getElem? (i := 8) rfl))) (g := (mkF m 56 #[.val (.int p1), .val (.int p2), .val (.int ((p1 &&& (3 : Int32)) + (1 : Int32))), .val (.int (65536 : Int32)), .unset, .unset] [])) rfl (hb hby at_56) t k) ?_
        refine Goes.st (U' := s₁.setTop (mkF m 60 #[.val (.int p1), .val (.int p2), .val (.int ((p1 &&& (3 : Int32)) + (1 : Int32))), .val (.int (65536 : Int32)), .val (.int (1114111 : Int32)), .unset] [])) (fun t k => XS.istore X0.here hx rfl (hb hby at_58) rfl (l' := #[.val (.int p1), .val (.int p2), .val (.int ((p1 &&& (3 : Int32)) + (1 : Int32))), .val (.int (65536 : Int32)), .val (.int (1114111 : Int32)), .unset]) rfl k) ?_
        refine Goes.st (U' := s₁.setTop (mkF m 61 #[.val (.int p1), .val (.int p2), .val (.int ((p1 &&& (3 : Int32)) + (1 : Int32))), .val (.int (65536 : Int32)), .val (.int (1114111 : Int32)), .unset] [(.int (65536 : Int32))])) (fun t k => XS.iloadN X0.here hx rfl (hb hby at_60) rfl k) ?_
        refine Goes.st (U' := s₁.setTop (mkF m 62 #[.val (.int p1), .val (.int p2), .val (.int ((p1 &&& (3 : Int32)) + (1 : Int32))), .val (.int (65536 : Int32)), .val (.int (1114111 : Int32)), .unset] [(.int p2), (.int (65536 : Int32))])) (fun t k => XS.iloadN X0.here hx rfl (hb hby at_61) rfl k) ?_
        refine Goes.st (U' := s₁.setTop (mkF m 64 #[.val (.int p1), .val (.int p2), .val (.int ((p1 &&& (3 : Int32)) + (1 : Int32))), .val (.int (65536 : Int32)), .val (.int (1114111 : Int32)), .unset] [(.int (2147483647 : Int32)), (.int p2), (.int (65536 : Int32))])) (fun t k => X0.ldcInt hx hown (mvT hZ (hw _ (List.mem_of_getElem? (i := 0) rfl))) (g := (mkF m 62 #[.val (.int p1), .val (.int p2), .val (.int ((p1 &&& (3 : Int32)) + (1 : Int32))), .val (.int (65536 : Int32)), .val (.int (1114111 : Int32)), .unset] [(.int p2), (.int (65536 : Int32))])) rfl (hb hby at_62) t k) ?_
        refine Goes.st (U' := s₁.setTop (mkF m 65 #[.val (.int p1), .val (.int p2), .val (.int ((p1 &&& (3 : Int32)) + (1 : Int32))), .val (.int (65536 : Int32)), .val (.int (1114111 : Int32)), .unset] [(.int (p2 &&& (2147483647 : Int32))), (.int (65536 : Int32))])) (fun t k => XS.iand X0.here hx rfl (hb hby at_64) rfl k) ?_
        refine Goes.st (U' := s₁.setTop (mkF m 67 #[.val (.int p1), .val (.int p2), .val (.int ((p1 &&& (3 : Int32)) + (1 : Int32))), .val (.int (65536 : Int32)), .val (.int (1114111 : Int32)), .unset] [(.int (1114111 : Int32)), (.int (p2 &&& (2147483647 : Int32))), (.int (65536 : Int32))])) (fun t k => XS.iload X0.here hx rfl (hb hby at_65) rfl k) ?_
        refine Goes.st (U' := s₁.setTop (mkF m 68 #[.val (.int p1), .val (.int p2), .val (.int ((p1 &&& (3 : Int32)) + (1 : Int32))), .val (.int (65536 : Int32)), .val (.int (1114111 : Int32)), .unset] [(.int (65536 : Int32)), (.int (1114111 : Int32)), (.int (p2 &&& (2147483647 : Int32))), (.int (65536 : Int32))])) (fun t k => XS.iloadN X0.here hx rfl (hb hby at_67) rfl k) ?_
        refine Goes.st (U' := s₁.setTop (mkF m 69 #[.val (.int p1), .val (.int p2), .val (.int ((p1 &&& (3 : Int32)) + (1 : Int32))), .val (.int (65536 : Int32)), .val (.int (1114111 : Int32)), .unset] [(.int (1048575 : Int32)), (.int (p2 &&& (2147483647 : Int32))), (.int (65536 : Int32))])) (fun t k => XS.isub X0.here hx rfl (hb hby at_68) rfl k) ?_
        refine Goes.st (U' := s₁.setTop (mkF m 70 #[.val (.int p1), .val (.int p2), .val (.int ((p1 &&& (3 : Int32)) + (1 : Int32))), .val (.int (65536 : Int32)), .val (.int (1114111 : Int32)), .unset] [(.int (1 : Int32)), (.int (1048575 : Int32)), (.int (p2 &&& (2147483647 : Int32))), (.int (65536 : Int32))])) (fun t k => XS.iconst X0.here hx rfl (hb hby at_69) k) ?_
        refine Goes.st (U' := s₁.setTop (mkF m 71 #[.val (.int p1), .val (.int p2), .val (.int ((p1 &&& (3 : Int32)) + (1 : Int32))), .val (.int (65536 : Int32)), .val (.int (1114111 : Int32)), .unset] [(.int (1048576 : Int32)), (.int (p2 &&& (2147483647 : Int32))), (.int (65536 : Int32))])) (fun t k => XS.iadd X0.here hx rfl (hb hby at_70) rfl k) ?_
        refine Goes.st (U' := s₁.setTop (mkF m 72 #[.val (.int p1), .val (.int p2), .val (.int ((p1 &&& (3 : Int32)) + (1 : Int32))), .val (.int (65536 : Int32)), .val (.int (1114111 : Int32)), .unset] [(.int ((p2 &&& (2147483647 : Int32)) % (1048576 : Int32))), (.int (65536 : Int32))])) (fun t k => iremM X0 hx rfl (hb hby at_71) rfl (by decide +kernel : ¬ ((1048576 : Int32) = (0 : Int32))) k) ?_
        refine Goes.st (U' := s₁.setTop (mkF m 73 #[.val (.int p1), .val (.int p2), .val (.int ((p1 &&& (3 : Int32)) + (1 : Int32))), .val (.int (65536 : Int32)), .val (.int (1114111 : Int32)), .unset] [(.int ((65536 : Int32) + ((p2 &&& (2147483647 : Int32)) % (1048576 : Int32))))])) (fun t k => XS.iadd X0.here hx rfl (hb hby at_72) rfl k) ?_
        refine Goes.st (U' := s₁.setTop (mkF m 75 #[.val (.int p1), .val (.int p2), .val (.int ((p1 &&& (3 : Int32)) + (1 : Int32))), .val (.int (65536 : Int32)), .val (.int (1114111 : Int32)), .val (.int ((65536 : Int32) + ((p2 &&& (2147483647 : Int32)) % (1048576 : Int32))))] [])) (fun t k => XS.istore X0.here hx rfl (hb hby at_73) rfl (l' := #[.val (.int p1), .val (.int p2), .val (.int ((p1 &&& (3 : Int32)) + (1 : Int32))), .val (.int (65536 : Int32)), .val (.int (1114111 : Int32)), .val (.int ((65536 : Int32) + ((p2 &&& (2147483647 : Int32)) % (1048576 : Int32))))]) rfl k) ?_
        refine Goes.st (U' := s₁.setTop (mkF m 77 #[.val (.int p1), .val (.int p2), .val (.int ((p1 &&& (3 : Int32)) + (1 : Int32))), .val (.int (65536 : Int32)), .val (.int (1114111 : Int32)), .val (.int ((65536 : Int32) + ((p2 &&& (2147483647 : Int32)) % (1048576 : Int32))))] [(.int ((65536 : Int32) + ((p2 &&& (2147483647 : Int32)) % (1048576 : Int32))))])) (fun t k => XS.iload X0.here hx rfl (hb hby at_75) rfl k) ?_
        obtain ⟨_, _, ⟨T10, L10, k10, n10⟩, -, X10, ⟨Lc10, hQ10, l10, y10, z10⟩, st10⟩ := Jvm.LawKit.callS X0 hx (y := (⟨"com/example/chaise/chaise/formats/SourceText", "length", "(I)I"⟩ : MethodName)) hown (mvT hZ (hw _ (List.mem_of_getElem? (i := 1) rfl))) (mvT hZ (hw _ (List.mem_of_getElem? (i := 2) rfl))) (mvT hZ (hw _ (List.mem_of_getElem? (i := 3) rfl))) (mvT hZ (hw _ (List.mem_of_getElem? (i := 4) rfl))) (by decide) (backOf (W := 0) (rm1 l Z a0 hw [] ((65536 : Int32) + ((p2 &&& (2147483647 : Int32)) % (1048576 : Int32))) h0 n0 Z0) hZ (hw _ (List.mem_of_getElem? (i := 4) rfl)) (hw _ (List.mem_of_getElem? (i := 3) rfl)) (by decide) (by decide)) (g := (mkF m 77 #[.val (.int p1), .val (.int p2), .val (.int ((p1 &&& (3 : Int32)) + (1 : Int32))), .val (.int (65536 : Int32)), .val (.int (1114111 : Int32)), .val (.int ((65536 : Int32) + ((p2 &&& (2147483647 : Int32)) % (1048576 : Int32))))] [(.int ((65536 : Int32) + ((p2 &&& (2147483647 : Int32)) % (1048576 : Int32))))])) rfl (by rw [hml]; rfl) (argsL := [(.int ((65536 : Int32) + ((p2 &&& (2147483647 : Int32)) % (1048576 : Int32))))]) (rest := []) (lenOf pd_0 rfl) rfl (by show 2 * 0 + _ ≤ _; exact Nat.le_of_eq rfl) (hb hby at_77) (fun _ _ => ⟨rfl, e0, (by decide : 0 + 0 ≤ _), (by decide : 0 + 0 ≤ _)⟩)
        dsimp only [Pt.U, Pt.locs, Pt.cells, Pt.slots] at X10 l10 y10 z10 st10 hQ10
        subst l10 y10 z10
        obtain ⟨rfl, N10q, e10⟩ := hQ10
        have N10 := Fr.app N0 N10q
        refine Goes.st (U' := T10.setTop (mkF m 80 #[.val (.int p1), .val (.int p2), .val (.int ((p1 &&& (3 : Int32)) + (1 : Int32))), .val (.int (65536 : Int32)), .val (.int (1114111 : Int32)), .val (.int ((65536 : Int32) + ((p2 &&& (2147483647 : Int32)) % (1048576 : Int32))))] [(.int (fn1 ((65536 : Int32) + ((p2 &&& (2147483647 : Int32)) % (1048576 : Int32)))))])) st10 ?_
        refine Goes.st (U' := T10.setTop (mkF m 81 #[.val (.int p1), .val (.int p2), .val (.int ((p1 &&& (3 : Int32)) + (1 : Int32))), .val (.int (65536 : Int32)), .val (.int (1114111 : Int32)), .val (.int ((65536 : Int32) + ((p2 &&& (2147483647 : Int32)) % (1048576 : Int32))))] [(.int ((p1 &&& (3 : Int32)) + (1 : Int32))), (.int (fn1 ((65536 : Int32) + ((p2 &&& (2147483647 : Int32)) % (1048576 : Int32)))))])) (fun t k => XS.iloadN X10.here hx rfl (hb hby at_80) rfl k) ?_
        rcases Decidable.em ((fn1 ((65536 : Int32) + ((p2 &&& (2147483647 : Int32)) % (1048576 : Int32)))) = ((p1 &&& (3 : Int32)) + (1 : Int32))) with hc81 | hc81
        · refine Goes.st (U' := T10.setTop (mkF m 84 #[.val (.int p1), .val (.int p2), .val (.int ((p1 &&& (3 : Int32)) + (1 : Int32))), .val (.int (65536 : Int32)), .val (.int (1114111 : Int32)), .val (.int ((65536 : Int32) + ((p2 &&& (2147483647 : Int32)) % (1048576 : Int32))))] [])) (fun t k => XS.icmpNo X10.here hx rfl (hb hby at_81) rfl (teq hc81).2 k) ?_
          refine Goes.st (U' := T10.setTop (mkF m 85 #[.val (.int p1), .val (.int p2), .val (.int ((p1 &&& (3 : Int32)) + (1 : Int32))), .val (.int (65536 : Int32)), .val (.int (1114111 : Int32)), .val (.int ((65536 : Int32) + ((p2 &&& (2147483647 : Int32)) % (1048576 : Int32))))] [(.int (65536 : Int32))])) (fun t k => XS.iloadN X10.here hx rfl (hb hby at_84) rfl k) ?_
          obtain ⟨_, _, ⟨T11, L11, k11, n11⟩, -, X11, ⟨Lc11, hQ11, l11, y11, z11⟩, st11⟩ := Jvm.LawKit.callS X10 hx (y := (⟨"com/example/chaise/chaise/formats/SourceText", "length", "(I)I"⟩ : MethodName)) hown (mvT hZ (hw _ (List.mem_of_getElem? (i := 1) rfl))) (mvT hZ (hw _ (List.mem_of_getElem? (i := 2) rfl))) (mvT hZ (hw _ (List.mem_of_getElem? (i := 3) rfl))) (mvT hZ (hw _ (List.mem_of_getElem? (i := 4) rfl))) (by decide) (backOf (W := 0) (rm1 l Z a0 hw [] (65536 : Int32) h0 n0 Z0) hZ (hw _ (List.mem_of_getElem? (i := 4) rfl)) (hw _ (List.mem_of_getElem? (i := 3) rfl)) (by decide) (by decide)) (g := (mkF m 85 #[.val (.int p1), .val (.int p2), .val (.int ((p1 &&& (3 : Int32)) + (1 : Int32))), .val (.int (65536 : Int32)), .val (.int (1114111 : Int32)), .val (.int ((65536 : Int32) + ((p2 &&& (2147483647 : Int32)) % (1048576 : Int32))))] [(.int (65536 : Int32))])) rfl (by rw [hml]; rfl) (argsL := [(.int (65536 : Int32))]) (rest := []) (lenOf pd_0 rfl) rfl (by show 2 * 0 + _ ≤ _; exact Nat.le_of_eq rfl) (hb hby at_85) (fun _ _ => ⟨rfl, e10, (by decide : 0 + 0 ≤ _), (by decide : 0 + 0 ≤ _)⟩)
          dsimp only [Pt.U, Pt.locs, Pt.cells, Pt.slots] at X11 l11 y11 z11 st11 hQ11
          subst l11 y11 z11
          obtain ⟨rfl, N11q, e11⟩ := hQ11
          have N11 := Fr.app N10 N11q
          refine Goes.st (U' := T11.setTop (mkF m 88 #[.val (.int p1), .val (.int p2), .val (.int ((p1 &&& (3 : Int32)) + (1 : Int32))), .val (.int (65536 : Int32)), .val (.int (1114111 : Int32)), .val (.int ((65536 : Int32) + ((p2 &&& (2147483647 : Int32)) % (1048576 : Int32))))] [(.int (fn1 (65536 : Int32)))])) st11 ?_
          refine Goes.st (U' := T11.setTop (mkF m 89 #[.val (.int p1), .val (.int p2), .val (.int ((p1 &&& (3 : Int32)) + (1 : Int32))), .val (.int (65536 : Int32)), .val (.int (1114111 : Int32)), .val (.int ((65536 : Int32) + ((p2 &&& (2147483647 : Int32)) % (1048576 : Int32))))] [(.int ((p1 &&& (3 : Int32)) + (1 : Int32))), (.int (fn1 (65536 : Int32)))])) (fun t k => XS.iloadN X11.here hx rfl (hb hby at_88) rfl k) ?_
          rcases Decidable.em ((fn1 (65536 : Int32)) = ((p1 &&& (3 : Int32)) + (1 : Int32))) with hc89 | hc89
          · refine Goes.st (U' := T11.setTop (mkF m 92 #[.val (.int p1), .val (.int p2), .val (.int ((p1 &&& (3 : Int32)) + (1 : Int32))), .val (.int (65536 : Int32)), .val (.int (1114111 : Int32)), .val (.int ((65536 : Int32) + ((p2 &&& (2147483647 : Int32)) % (1048576 : Int32))))] [])) (fun t k => XS.icmpNo X11.here hx rfl (hb hby at_89) rfl (teq hc89).2 k) ?_
            refine Goes.st (U' := T11.setTop (mkF m 94 #[.val (.int p1), .val (.int p2), .val (.int ((p1 &&& (3 : Int32)) + (1 : Int32))), .val (.int (65536 : Int32)), .val (.int (1114111 : Int32)), .val (.int ((65536 : Int32) + ((p2 &&& (2147483647 : Int32)) % (1048576 : Int32))))] [(.int (1114111 : Int32))])) (fun t k => XS.iload X11.here hx rfl (hb hby at_92) rfl k) ?_
            obtain ⟨_, _, ⟨T12, L12, k12, n12⟩, -, X12, ⟨Lc12, hQ12, l12, y12, z12⟩, st12⟩ := Jvm.LawKit.callS X11 hx (y := (⟨"com/example/chaise/chaise/formats/SourceText", "length", "(I)I"⟩ : MethodName)) hown (mvT hZ (hw _ (List.mem_of_getElem? (i := 1) rfl))) (mvT hZ (hw _ (List.mem_of_getElem? (i := 2) rfl))) (mvT hZ (hw _ (List.mem_of_getElem? (i := 3) rfl))) (mvT hZ (hw _ (List.mem_of_getElem? (i := 4) rfl))) (by decide) (backOf (W := 0) (rm1 l Z a0 hw [] (1114111 : Int32) h0 n0 Z0) hZ (hw _ (List.mem_of_getElem? (i := 4) rfl)) (hw _ (List.mem_of_getElem? (i := 3) rfl)) (by decide) (by decide)) (g := (mkF m 94 #[.val (.int p1), .val (.int p2), .val (.int ((p1 &&& (3 : Int32)) + (1 : Int32))), .val (.int (65536 : Int32)), .val (.int (1114111 : Int32)), .val (.int ((65536 : Int32) + ((p2 &&& (2147483647 : Int32)) % (1048576 : Int32))))] [(.int (1114111 : Int32))])) rfl (by rw [hml]; rfl) (argsL := [(.int (1114111 : Int32))]) (rest := []) (lenOf pd_0 rfl) rfl (by show 2 * 0 + _ ≤ _; exact Nat.le_of_eq rfl) (hb hby at_94) (fun _ _ => ⟨rfl, e11, (by decide : 0 + 0 ≤ _), (by decide : 0 + 0 ≤ _)⟩)
            dsimp only [Pt.U, Pt.locs, Pt.cells, Pt.slots] at X12 l12 y12 z12 st12 hQ12
            subst l12 y12 z12
            obtain ⟨rfl, N12q, e12⟩ := hQ12
            have N12 := Fr.app N11 N12q
            refine Goes.st (U' := T12.setTop (mkF m 97 #[.val (.int p1), .val (.int p2), .val (.int ((p1 &&& (3 : Int32)) + (1 : Int32))), .val (.int (65536 : Int32)), .val (.int (1114111 : Int32)), .val (.int ((65536 : Int32) + ((p2 &&& (2147483647 : Int32)) % (1048576 : Int32))))] [(.int (fn1 (1114111 : Int32)))])) st12 ?_
            refine Goes.st (U' := T12.setTop (mkF m 98 #[.val (.int p1), .val (.int p2), .val (.int ((p1 &&& (3 : Int32)) + (1 : Int32))), .val (.int (65536 : Int32)), .val (.int (1114111 : Int32)), .val (.int ((65536 : Int32) + ((p2 &&& (2147483647 : Int32)) % (1048576 : Int32))))] [(.int ((p1 &&& (3 : Int32)) + (1 : Int32))), (.int (fn1 (1114111 : Int32)))])) (fun t k => XS.iloadN X12.here hx rfl (hb hby at_97) rfl k) ?_
            rcases Decidable.em ((fn1 (1114111 : Int32)) = ((p1 &&& (3 : Int32)) + (1 : Int32))) with hc98 | hc98
            · refine Goes.st (U' := T12.setTop (mkF m 101 #[.val (.int p1), .val (.int p2), .val (.int ((p1 &&& (3 : Int32)) + (1 : Int32))), .val (.int (65536 : Int32)), .val (.int (1114111 : Int32)), .val (.int ((65536 : Int32) + ((p2 &&& (2147483647 : Int32)) % (1048576 : Int32))))] [])) (fun t k => XS.icmpNo X12.here hx rfl (hb hby at_98) rfl (teq hc98).2 k) ?_
              refine Goes.st (U' := T12.setTop (mkF m 102 #[.val (.int p1), .val (.int p2), .val (.int ((p1 &&& (3 : Int32)) + (1 : Int32))), .val (.int (65536 : Int32)), .val (.int (1114111 : Int32)), .val (.int ((65536 : Int32) + ((p2 &&& (2147483647 : Int32)) % (1048576 : Int32))))] [(.int (1 : Int32))])) (fun t k => XS.iconst X12.here hx rfl (hb hby at_101) k) ?_
              refine Goes.st (U' := T12.setTop (mkF m 106 #[.val (.int p1), .val (.int p2), .val (.int ((p1 &&& (3 : Int32)) + (1 : Int32))), .val (.int (65536 : Int32)), .val (.int (1114111 : Int32)), .val (.int ((65536 : Int32) + ((p2 &&& (2147483647 : Int32)) % (1048576 : Int32))))] [(.int (1 : Int32))])) (fun t k => XS.goto X12.here hx rfl (pc0 := 102) (pc' := 106) rfl (hb hby at_102) (by decide) (by decide) k) ?_
              refine Goes.retZ X12 hx (BodyLoose.notSynchronized Bd) Bd.returns (hb hby at_106) rfl (by decide) (by decide) ?_
              show Q0 Z p1 p2 h0 n0 _ T12.heap _
              rw [e12]
              exact ⟨(congrArg some (congrArg _ (by unfold fn0; rw [if_neg hc8]; rw [if_neg hc22]; rw [if_neg hc39]; rw [if_pos hc81]; rw [if_pos hc89]; rw [if_pos hc98]))), N12, rfl⟩
            · refine Goes.st (U' := T12.setTop (mkF m 105 #[.val (.int p1), .val (.int p2), .val (.int ((p1 &&& (3 : Int32)) + (1 : Int32))), .val (.int (65536 : Int32)), .val (.int (1114111 : Int32)), .val (.int ((65536 : Int32) + ((p2 &&& (2147483647 : Int32)) % (1048576 : Int32))))] [])) (fun t k => XS.icmpYes X12.here hx rfl (pc0 := 98) (pc' := 105) rfl (hb hby at_98) rfl (feq hc98).2 (by decide) (by decide) k) ?_
              refine Goes.st (U' := T12.setTop (mkF m 106 #[.val (.int p1), .val (.int p2), .val (.int ((p1 &&& (3 : Int32)) + (1 : Int32))), .val (.int (65536 : Int32)), .val (.int (1114111 : Int32)), .val (.int ((65536 : Int32) + ((p2 &&& (2147483647 : Int32)) % (1048576 : Int32))))] [(.int (0 : Int32))])) (fun t k => XS.iconst X12.here hx rfl (hb hby at_105) k) ?_
              refine Goes.retZ X12 hx (BodyLoose.notSynchronized Bd) Bd.returns (hb hby at_106) rfl (by decide) (by decide) ?_
              show Q0 Z p1 p2 h0 n0 _ T12.heap _
              rw [e12]
              exact ⟨(congrArg some (congrArg _ (by unfold fn0; rw [if_neg hc8]; rw [if_neg hc22]; rw [if_neg hc39]; rw [if_pos hc81]; rw [if_pos hc89]; rw [if_neg hc98]))), N12, rfl⟩
          · refine Goes.st (U' := T11.setTop (mkF m 105 #[.val (.int p1), .val (.int p2), .val (.int ((p1 &&& (3 : Int32)) + (1 : Int32))), .val (.int (65536 : Int32)), .val (.int (1114111 : Int32)), .val (.int ((65536 : Int32) + ((p2 &&& (2147483647 : Int32)) % (1048576 : Int32))))] [])) (fun t k => XS.icmpYes X11.here hx rfl (pc0 := 89) (pc' := 105) rfl (hb hby at_89) rfl (feq hc89).2 (by decide) (by decide) k) ?_
            refine Goes.st (U' := T11.setTop (mkF m 106 #[.val (.int p1), .val (.int p2), .val (.int ((p1 &&& (3 : Int32)) + (1 : Int32))), .val (.int (65536 : Int32)), .val (.int (1114111 : Int32)), .val (.int ((65536 : Int32) + ((p2 &&& (2147483647 : Int32)) % (1048576 : Int32))))] [(.int (0 : Int32))])) (fun t k => XS.iconst X11.here hx rfl (hb hby at_105) k) ?_
            refine Goes.retZ X11 hx (BodyLoose.notSynchronized Bd) Bd.returns (hb hby at_106) rfl (by decide) (by decide) ?_
            show Q0 Z p1 p2 h0 n0 _ T11.heap _
            rw [e11]
            exact ⟨(congrArg some (congrArg _ (by unfold fn0; rw [if_neg hc8]; rw [if_neg hc22]; rw [if_neg hc39]; rw [if_pos hc81]; rw [if_neg hc89]))), N11, rfl⟩
        · refine Goes.st (U' := T10.setTop (mkF m 105 #[.val (.int p1), .val (.int p2), .val (.int ((p1 &&& (3 : Int32)) + (1 : Int32))), .val (.int (65536 : Int32)), .val (.int (1114111 : Int32)), .val (.int ((65536 : Int32) + ((p2 &&& (2147483647 : Int32)) % (1048576 : Int32))))] [])) (fun t k => XS.icmpYes X10.here hx rfl (pc0 := 81) (pc' := 105) rfl (hb hby at_81) rfl (feq hc81).2 (by decide) (by decide) k) ?_
          refine Goes.st (U' := T10.setTop (mkF m 106 #[.val (.int p1), .val (.int p2), .val (.int ((p1 &&& (3 : Int32)) + (1 : Int32))), .val (.int (65536 : Int32)), .val (.int (1114111 : Int32)), .val (.int ((65536 : Int32) + ((p2 &&& (2147483647 : Int32)) % (1048576 : Int32))))] [(.int (0 : Int32))])) (fun t k => XS.iconst X10.here hx rfl (hb hby at_105) k) ?_
          refine Goes.retZ X10 hx (BodyLoose.notSynchronized Bd) Bd.returns (hb hby at_106) rfl (by decide) (by decide) ?_
          show Q0 Z p1 p2 h0 n0 _ T10.heap _
          rw [e10]
          exact ⟨(congrArg some (congrArg _ (by unfold fn0; rw [if_neg hc8]; rw [if_neg hc22]; rw [if_neg hc39]; rw [if_neg hc81]))), N10, rfl⟩
theorem own_mod (x m : Int32) (d : Int) (hm : m.toInt = d) (hd : 0 < d) : 0 ≤ ((x &&& (2147483647 : Int32)) % m).toInt ∧ ((x &&& (2147483647 : Int32)) % m).toInt < d := by
  have h := c_mask x 2147483647 31 (by decide) (by decide)
  have h2 := (c_irem (x &&& 2147483647) m d hm).1 (by omega)
  rw [h2]
  exact ⟨Int.emod_nonneg _ (by omega), Int.emod_lt_of_pos _ hd⟩
theorem own_len (c : Int32) : (c.toInt < 128 → fn1 c = 1) ∧ (128 ≤ c.toInt → c.toInt < 2048 → fn1 c = 2) ∧ (2048 ≤ c.toInt → c.toInt < 65536 → fn1 c = 3) ∧ (65536 ≤ c.toInt → fn1 c = 4) := by
  unfold fn1
  have e1 : (128 : Int32).toInt = 128 := rfl
  have e2 : (2048 : Int32).toInt = 2048 := rfl
  have e3 : (65536 : Int32).toInt = 65536 := rfl
  simp only [Int32.lt_iff_toInt_lt, e1, e2, e3]
  refine ⟨fun h => ?_, fun h h' => ?_, fun h h' => ?_, fun h => ?_⟩
  · rw [if_pos h]
  · rw [if_neg (by omega), if_pos h']
  · rw [if_neg (by omega), if_neg (by omega), if_pos h']
  · rw [if_neg (by omega), if_neg (by omega), if_neg (by omega)]
theorem own_c (lo m x : Int32) (a d : Int) (ha : lo.toInt = a) (hm : m.toInt = d) (hd : 0 < d) (h0 : 0 ≤ a) (hb : a + d ≤ 2147483647) : a ≤ (lo + (x &&& (2147483647 : Int32)) % m).toInt ∧ (lo + (x &&& (2147483647 : Int32)) % m).toInt < a + d := by
  have h := own_mod x m d hm hd
  have h1 := c_iadd lo ((x &&& (2147483647 : Int32)) % m)
  have h2 := rng32 (lo + (x &&& (2147483647 : Int32)) % m)
  omega
theorem own_n (k : Int32) : (k &&& (3 : Int32)) = 0 ∨ (k &&& (3 : Int32)) = 1 ∨ (k &&& (3 : Int32)) = 2 ∨ (k &&& (3 : Int32)) = 3 := by
  have h := c_mask k 3 2 (by decide) (by decide)
  have e0 : (0 : Int32).toInt = 0 := rfl
  have e1 : (1 : Int32).toInt = 1 := rfl
  have e2 : (2 : Int32).toInt = 2 := rfl
  have e3 : (3 : Int32).toInt = 3 := rfl
  simp only [← Int32.toInt_inj]
  omega
theorem plain (p1 p2 : Int32) : fn0 p1 p2 = 1 := by
  have k1 := (own_len _).1 (own_c 0 128 p2 0 128 rfl (by decide +kernel) (by decide) (by decide) (by decide)).2
  have c2 := own_c 128 1920 p2 128 1920 rfl (by decide +kernel) (by decide) (by decide) (by decide)
  have k2 := (own_len _).2.1 c2.1 c2.2
  have c3 := own_c 2048 63488 p2 2048 63488 rfl (by decide +kernel) (by decide) (by decide) (by decide)
  have k3 := (own_len _).2.2.1 c3.1 c3.2
  have c4 := own_c 65536 1048576 p2 65536 1048576 rfl (by decide +kernel) (by decide) (by decide) (by decide)
  have k4 := (own_len _).2.2.2 c4.1
  have l1 : fn1 0 = 1 ∧ fn1 127 = 1 ∧ fn1 128 = 2 ∧ fn1 2047 = 2 ∧ fn1 2048 = 3 ∧ fn1 65535 = 3 ∧ fn1 65536 = 4 ∧ fn1 1114111 = 4 := by decide +kernel
  obtain ⟨m1, m2, m3, m4, m5, m6, m7, m8⟩ := l1
  have g0 : (0 : Int32) + (1 : Int32) = 1 := by decide +kernel
  have g1 : (1 : Int32) + (1 : Int32) = 2 := by decide +kernel
  have g2 : (2 : Int32) + (1 : Int32) = 3 := by decide +kernel
  have g3 : (3 : Int32) + (1 : Int32) = 4 := by decide +kernel
  have n1 : ¬ (2 : Int32) = 1 := by decide
  have n2 : ¬ (3 : Int32) = 1 := by decide
  have n3 : ¬ (3 : Int32) = 2 := by decide
  have n4 : ¬ (4 : Int32) = 1 := by decide
  have n5 : ¬ (4 : Int32) = 2 := by decide
  have n6 : ¬ (4 : Int32) = 3 := by decide
  unfold fn0
  rcases own_n p1 with h | h | h | h <;> rw [h]
  · simp only [g0, if_true, k1, m1, m2]
  · simp only [g1, n1, if_true, if_false, k2, m3, m4]
  · simp only [g2, n2, n3, if_true, if_false, k3, m5, m6]
  · simp only [g3, n4, n5, n6, if_true, if_false, k4, m7, m8]
set_option maxRecDepth 65536 in
set_option maxHeartbeats 40000000 in
theorem comes_1 {Post : Tables → Env → Array Value → State → Outcome → State → Prop} (hpost : ∀ tb e args s v u, (limb_1_1.after args s (.returned v) u = true ∧ limb_1_2.after args s (.returned v) u = true ∧ True) → FrameEnd s (.returned v) u (Jvm.fieldLocs frame_1_writes args s ++ Jvm.arrayLocs frame_1_arrays args s ++ Jvm.staticLocs frame_1_statics s) 0 0 → Post tb e args s (.returned v) u) :
    ArmFor flags0 classFile x code maxLocals ret World_1 tables_1 room_1 Calls_1 rest_1 Pre_1 Post := by
  intro l hfl _ _ p e ha hc hk s m args below hf hA hF happ hP
  obtain ⟨hcalls, hrest, hpre⟩ := hP
  obtain ⟨-, -, -, hnamed, -, -, -, hat⟩ := (Spec.applies_iff hf).mp happ
  obtain ⟨hg, hn⟩ := and_e (Cond.before_iff.mp (show (Jvm.Cond.and given_1 narrow_1).before args s = true from hpre))
  obtain ⟨gg1, gg2⟩ := and_e hg
  obtain ⟨gg3, gg4⟩ := and_e gg2
  obtain ⟨w0, w1, rfl⟩ : ∃ w0 w1 : Value, args = #[w0, w1] := by
    have hs : args.size = 2 := by simpa [Cond.value, given_1] using gg1
    obtain ⟨L⟩ := args
    match L, hs with
    | [w0, w1], _ => exact ⟨w0, w1, rfl⟩
  have hw := fun d (hd : d ∈ tables_1) => atoms_spec (ws := Jvm.Cond.code x code maxLocals ret :: tables_1) hat d (List.mem_cons_of_mem _ hd)
  obtain ⟨i0, ei0⟩ := is_v gg3
  obtain rfl : w0 = (.int i0) := Option.some.inj ei0
  obtain ⟨i1, ei1⟩ := is_v gg4
  obtain rfl : w1 = (.int i1) := Option.some.inj ei1
  obtain ⟨n, o, h1, h2, h3, v, L, rfl, hQ, hq⟩ := rm0 l s _ hw tables_1 i0 i1 s.heap s.heap.size (Nat.le_refl _) p e ha hc hk s m _ below hf ((Spec.applies_iff_loose hf).mp happ).1 ⟨rfl, State.Warmed39.refl s, rfl⟩ trivial
  obtain ⟨hv, N, -⟩ := hQ
  rw [plain] at hv
  subst hv
  exact ⟨n, _, h1, h2, h3, hpost _ _ _ _ _ _ ⟨Cond.after_iff.mpr rfl, Cond.after_iff.mpr (eq_i res_at (Term.int_eval (1)) rfl), trivial⟩ ⟨hq.1, hq.2.1, (hq.2.2.sift fun y hy => Or.inr (N y hy)).mono (by decide) (by decide)⟩⟩
theorem main_1_1 : Claimed_1_1 := comes_1 fun _ _ _ _ _ _ h hF => ⟨h.1, hF⟩
theorem main_1_2 : Claimed_1_2 := comes_1 fun _ _ _ _ _ _ h hF => ⟨h.2.1, hF⟩
end Jvm.Pilot.@@N@@
namespace Jvm.Pilot.@@N@@
open Jvm Jvm.ClassFile Sem Op Lib Jvm.Free Jvm.Stand Jvm.Pilot.@@N@@.Jvm.D
/-! MADE BY PROGRAM (witnessworld.py) out of the Statement's table words and the real class files: 11 classes; the members and pool entries that the words name. The judged class is class 1, her method 1. -/
namespace start1
open Jvm.ClassFile
def u (s : String) : CpInfo := .utf8 (stringToUtf16 s)
/-- a pool by its gaps: so many unusable entries, then the entry; so many at the end -/
def gap : Nat → List CpInfo → List CpInfo
  | 0, r => r
  | n + 1, r => .unusable :: gap n r
def poolList (es : List (Nat × CpInfo)) (last : Nat) : List CpInfo := es.foldr (fun e r => gap e.1 (e.2 :: r)) (gap last [])
def pool (es : List (Nat × CpInfo)) (last : Nat) : Array CpInfo := ⟨poolList es last⟩
def fileOf (pool : Array CpInfo) (this : Nat) (attrs : Array Attribute := #[]) (ms : Array MethodInfo := #[]) (fl : Nat := 33) (sup : Nat := 0) (ifs : Array Nat := #[]) (fds : Array FieldInfo := #[]) : ClassFile where
  minorVersion := 0
  majorVersion := 65
  constantPool := pool
  accessFlags := fl
  thisClass := this
  superClass := sup
  interfaces := ifs
  fields := fds
  methods := ms
  attributes := attrs
def plain (name : String) (sup : Option ClassId) : Class where
  name := name
  kind := .ordinary
  loader := none
  accessFlags := 33
  super := sup
  interfaces := #[]
  cf := none
  fields := #[]
  methods := #[]
  instanceTypes := #[]
  staticTypes := #[]
  resolved := #[]
  callSites := []
  init := .initialized
  statics := none
  mirror := none

def pool0 : Array CpInfo := pool [(5, u "<init>"), (0, u "()V"), (1, .class_ 10), (1, u "java/lang/Object")] 113

def k0m0 : Method := { name := "<init>", desc := "()V", sig := { parameters := [], returnType := none }, accessFlags := 1, code := none }
/-- java/lang/Object -/
def k0 : Class := { plain "java/lang/Object" none with
  accessFlags := 33
  interfaces := #[]
  cf := some (fileOf pool0 8 #[] #[{ accessFlags := 1, nameIndex := 5, descriptorIndex := 6, attributes := #[] }] 33 0 #[] #[])
  fields := #[]
  methods := #[k0m0]
  instanceTypes := #[]
  staticTypes := #[]
  resolved := Array.replicate 124 none
  statics := none }

def pool1 : Array CpInfo := pool [(2, .class_ 4), (1, u "java/lang/Object"), (0, u "<init>"), (0, u "()V"), (0, .integer 65535), (0, .integer 65536), (0, .integer 1114111), (0, .integer 2147483647), (0, .methodref 12 13), (0, .class_ 14), (0, .nameAndType 15 16), (0, u "com/example/chaise/chaise/formats/SourceText"), (0, u "length"), (0, u "(I)I"), (0, .class_ 18), (0, u "com/example/chaise/chaise/formats/SourceTextLengthPinLaw"), (2, u "law"), (0, u "(II)Z")] 3

def k1m0 : Method := { name := "<init>", desc := "()V", sig := { parameters := [], returnType := none }, accessFlags := 1, code := none }
def k1c1 : Code := { maxStack := 4, maxLocals := 6, code := code, exceptionTable := #[], attributes := #[] }
def k1m1 : Method := { name := "law", desc := "(II)Z", sig := { parameters := [.int, .int], returnType := some .boolean }, accessFlags := 9, code := some k1c1 }
/-- com/example/chaise/chaise/formats/SourceTextLengthPinLaw -/
def k1 : Class := { plain "com/example/chaise/chaise/formats/SourceTextLengthPinLaw" (some 0) with
  accessFlags := 49
  interfaces := #[]
  cf := some (fileOf pool1 17 #[] #[{ accessFlags := 1, nameIndex := 5, descriptorIndex := 6, attributes := #[] }, { accessFlags := 9, nameIndex := 21, descriptorIndex := 22, attributes := #[] }] 49 2 #[] #[])
  fields := #[]
  methods := #[k1m0, k1m1]
  instanceTypes := #[]
  staticTypes := #[]
  resolved := Array.replicate 26 none
  statics := none }

def pool2 : Array CpInfo := pool [(1, .class_ 2), (0, u "java/lang/AutoCloseable"), (0, .class_ 4), (0, u "java/lang/Object")] 7

/-- java/lang/AutoCloseable -/
def k2 : Class := { plain "java/lang/AutoCloseable" (some 0) with
  accessFlags := 1537
  interfaces := #[]
  cf := some (fileOf pool2 1 #[] #[] 1537 3 #[] #[])
  fields := #[]
  methods := #[]
  instanceTypes := #[]
  staticTypes := #[]
  resolved := Array.replicate 12 none
  statics := none }

def pool3 : Array CpInfo := pool [(1, .class_ 2), (0, u "java/io/Closeable"), (0, .class_ 4), (0, u "java/lang/Object"), (0, .class_ 6), (0, u "java/lang/AutoCloseable")] 7

/-- java/io/Closeable -/
def k3 : Class := { plain "java/io/Closeable" (some 0) with
  accessFlags := 1537
  interfaces := #[2]
  cf := some (fileOf pool3 1 #[] #[] 1537 3 #[5] #[])
  fields := #[]
  methods := #[]
  instanceTypes := #[]
  staticTypes := #[]
  resolved := Array.replicate 14 none
  statics := none }

def pool4 : Array CpInfo := pool [(2, .class_ 4), (1, u "com/example/chaise/chaise/formats/SourceText"), (3, .class_ 10), (1, u "java/lang/Object"), (1, .integer 65536), (2, u "buffer"), (0, u "[B"), (2, u "line"), (0, u "I"), (2, u "column"), (2, u "file"), (0, u "Ljava/lang/String;"), (2, u "bytes"), (0, u "Ljava/io/InputStream;"), (2, u "blockComments"), (0, u "Z"), (2, u "offset"), (0, u "J"), (6, u "bufferStart"), (13, u "length"), (11, u "(I)I"), (2, u "ended"), (4, u "end"), (20, u "ASCII_SPACE"), (0, u "Lcom/example/chaise/chaise/formats/SourceText$CharClass;"), (2, u "kept"), (2, u "COMMENT"), (11, u "BLOCK_COMMENT"), (44, .class_ 167), (1, u "com/example/chaise/chaise/formats/SourceText$CharClass"), (44, .class_ 213), (0, u "java/io/Closeable"), (0, u "BLOCK"), (1, u "LONGEST")] 50

def k4c0 : Code := { maxStack := 2, maxLocals := 2, code := prog_140_method_3_code, exceptionTable := #[], attributes := #[] }
def k4m0 : Method := { name := "length", desc := "(I)I", sig := { parameters := [.int], returnType := some .int }, accessFlags := 8, code := some k4c0 }
/-- com/example/chaise/chaise/formats/SourceText -/
def k4 : Class := { plain "com/example/chaise/chaise/formats/SourceText" (some 0) with
  accessFlags := 32
  interfaces := #[3]
  cf := some (fileOf pool4 2 #[.nestMembers #[165]] #[{ accessFlags := 8, nameIndex := 60, descriptorIndex := 72, attributes := #[] }] 32 8 #[212] #[{ accessFlags := 26, nameIndex := 214, descriptorIndex := 20, attributes := #[] }, { accessFlags := 26, nameIndex := 216, descriptorIndex := 20, attributes := #[] }, { accessFlags := 26, nameIndex := 101, descriptorIndex := 102, attributes := #[] }, { accessFlags := 26, nameIndex := 108, descriptorIndex := 102, attributes := #[] }, { accessFlags := 26, nameIndex := 120, descriptorIndex := 102, attributes := #[] }, { accessFlags := 18, nameIndex := 26, descriptorIndex := 27, attributes := #[] }, { accessFlags := 18, nameIndex := 30, descriptorIndex := 31, attributes := #[] }, { accessFlags := 18, nameIndex := 34, descriptorIndex := 35, attributes := #[] }, { accessFlags := 2, nameIndex := 15, descriptorIndex := 16, attributes := #[] }, { accessFlags := 2, nameIndex := 46, descriptorIndex := 39, attributes := #[] }, { accessFlags := 2, nameIndex := 80, descriptorIndex := 20, attributes := #[] }, { accessFlags := 2, nameIndex := 75, descriptorIndex := 35, attributes := #[] }, { accessFlags := 2, nameIndex := 105, descriptorIndex := 39, attributes := #[] }, { accessFlags := 2, nameIndex := 38, descriptorIndex := 39, attributes := #[] }, { accessFlags := 2, nameIndex := 19, descriptorIndex := 20, attributes := #[] }, { accessFlags := 2, nameIndex := 23, descriptorIndex := 20, attributes := #[] }])
  fields := #[{ name := "BLOCK", type := .int, accessFlags := 26, slot := 0, constantValue := 0 }, { name := "LONGEST", type := .int, accessFlags := 26, slot := 1, constantValue := 0 }, { name := "ASCII_SPACE", type := (.object "com/example/chaise/chaise/formats/SourceText$CharClass"), accessFlags := 26, slot := 2, constantValue := 0 }, { name := "COMMENT", type := (.object "com/example/chaise/chaise/formats/SourceText$CharClass"), accessFlags := 26, slot := 3, constantValue := 0 }, { name := "BLOCK_COMMENT", type := (.object "com/example/chaise/chaise/formats/SourceText$CharClass"), accessFlags := 26, slot := 4, constantValue := 0 }, { name := "file", type := (.object "java/lang/String"), accessFlags := 18, slot := 0, constantValue := 0 }, { name := "bytes", type := (.object "java/io/InputStream"), accessFlags := 18, slot := 1, constantValue := 0 }, { name := "blockComments", type := .boolean, accessFlags := 18, slot := 2, constantValue := 0 }, { name := "buffer", type := (.array .byte), accessFlags := 2, slot := 3, constantValue := 0 }, { name := "bufferStart", type := .long, accessFlags := 2, slot := 4, constantValue := 0 }, { name := "end", type := .int, accessFlags := 2, slot := 5, constantValue := 0 }, { name := "ended", type := .boolean, accessFlags := 2, slot := 6, constantValue := 0 }, { name := "kept", type := .long, accessFlags := 2, slot := 7, constantValue := 0 }, { name := "offset", type := .long, accessFlags := 2, slot := 8, constantValue := 0 }, { name := "line", type := .int, accessFlags := 2, slot := 9, constantValue := 0 }, { name := "column", type := .int, accessFlags := 2, slot := 10, constantValue := 0 }]
  methods := #[k4m0]
  instanceTypes := #[(.object "java/lang/String"), (.object "java/io/InputStream"), .boolean, (.array .byte), .long, .int, .boolean, .long, .long, .int, .int]
  staticTypes := #[.int, .int, (.object "com/example/chaise/chaise/formats/SourceText$CharClass"), (.object "com/example/chaise/chaise/formats/SourceText$CharClass"), (.object "com/example/chaise/chaise/formats/SourceText$CharClass")]
  resolved := Array.replicate 267 none
  statics := none }

def pool5 : Array CpInfo := pool [(1, u "java/lang/Cloneable"), (0, .class_ 1), (0, u "java/lang/Object"), (0, .class_ 3)] 3

/-- java/lang/Cloneable -/
def k5 : Class := { plain "java/lang/Cloneable" (some 0) with
  accessFlags := 1537
  interfaces := #[]
  cf := some (fileOf pool5 2 #[] #[] 1537 4 #[] #[])
  fields := #[]
  methods := #[]
  instanceTypes := #[]
  staticTypes := #[]
  resolved := Array.replicate 8 none
  statics := none }

def pool6 : Array CpInfo := pool [(1, u "java/io/Serializable"), (0, .class_ 1), (0, u "java/lang/Object"), (0, .class_ 3)] 3

/-- java/io/Serializable -/
def k6 : Class := { plain "java/io/Serializable" (some 0) with
  accessFlags := 1537
  interfaces := #[]
  cf := some (fileOf pool6 2 #[] #[] 1537 4 #[] #[])
  fields := #[]
  methods := #[]
  instanceTypes := #[]
  staticTypes := #[]
  resolved := Array.replicate 8 none
  statics := none }

/-- the primitive byte -/
def k7 : Class := { plain "byte" none with kind := .primitive 'B', accessFlags := 0x411 }
/-- [B -/
def k8 : Class := { plain "[B" (some 0) with kind := .array 7 .byte, interfaces := #[5, 6], accessFlags := 1041 }

/-- the primitive int -/
def k9 : Class := { plain "int" none with kind := .primitive 'I', accessFlags := 0x411 }
/-- [I -/
def k10 : Class := { plain "[I" (some 0) with kind := .array 9 .int, interfaces := #[5, 6], accessFlags := 1041 }

def heap : Heap := #[]
def classes : Array Class := #[k0, k1, k2, k3, k4, k5, k6, k7, k8, k9, k10]
def interned : List (Array UInt16 × Addr) := []
def slotsUsed : Nat := 0
def theMethod : MethodId := ⟨1, 1⟩
def args0 : Array Value := #[.int 5, .int 7]
def aboutOver (below : List Frame) : State where
  vm := { classes := classes, interned := interned.toArray }
  heap := heap
  slotsUsed := slotsUsed
  threads := #[{ frames := .invoking theMethod args0 :: below }]
def below0 : List Frame := [.native { method := ⟨0, 0⟩, args := #[] }]
def about1 : State := aboutOver below0
def p0 : Program := .bare "" "" ""
def e0 : Env := launch0.env 0 0 0
theorem w_frames : about1.frames = Frame.invoking theMethod args0 :: below0 := rfl
set_option maxRecDepth 65536 in
theorem w_args : argsFit about1.vm theMethod args0 = true := by decide +kernel
set_option maxRecDepth 65536 in
theorem w_heap : heapFits about1 = true := by decide +kernel
set_option maxRecDepth 65536 in
theorem w_runnable : about1.curStatus? = some .runnable := by decide +kernel
set_option maxRecDepth 65536 in
theorem w_alone : about1.alone = true := by decide +kernel
set_option maxRecDepth 65536 in
theorem w_named : about1.methodNamed? x = some theMethod := by decide +kernel
set_option maxRecDepth 65536 in
theorem w_hears : about1.hears theMethod below0 = true := by decide +kernel
set_option maxRecDepth 65536 in
theorem w_ripe : about1.ripe theMethod args0 below0 = true := by decide +kernel
theorem w_running : about1.status = .running := rfl
set_option maxRecDepth 65536 in
theorem w_room : about1.hasRoom e0.platform room_1 = true :=
  launch0.hasRoom_least _ room_1 (by decide +kernel) (by decide +kernel) (by decide +kernel) (by decide +kernel) (by decide +kernel) (by decide +kernel)
theorem allAtoms_all (ts : List Jvm.Cond) (a : Array Jvm.Value) (st : Jvm.State) : (allAtoms ts).before a st = ts.all (fun c => c.before a st) := by
  induction ts with
  | nil => rfl
  | cons c t ih =>
    show (Jvm.Cond.and c (allAtoms t)).before a st = _
    rw [Jvm.Cond.before_and, ih, List.all_cons]
def words1 : List Jvm.Cond := Jvm.Cond.code x code maxLocals ret :: tables_1
/-- a 'code' word, met by the world's own term for the bytes: nothing is compared byte by byte -/
theorem code_word {y : MethodName} {bytes : ByteArray} {mx : Nat} {rt : Option FieldType} {a : Array Value} {s : State} {m : MethodId} {meth : Method} {c : Code} (h1 : s.methodNamed? y = some m) (h2 : s.vm.method? m = some meth) (h3 : meth.code = some c) (h4 : c.code = bytes)
    (h5 : (c.maxLocals == mx && c.exceptionTable.isEmpty && decide (c.maxStack ≤ mostOperands) && decide (meth.sig.returnType = rt) && !meth.locks && decide (parseMethodDescriptor y.desc = some meth.sig)) = true) : (Jvm.Cond.code y bytes mx rt).before a s = true := by
  simp only [Bool.and_eq_true, beq_iff_eq, Bool.not_eq_true', decide_eq_true_eq] at h5
  obtain ⟨⟨⟨⟨⟨g1, g2⟩, g3⟩, g4⟩, g5⟩, g6⟩ := h5
  simp [Cond.before, Cond.holds, Cond.value, h1, h2, h3, h4, g1, g2, g3, g4, g5, g6]
def isCode : Jvm.Cond → Bool
  | .code _ _ _ _ => true
  | _ => false
theorem all_split {L : List Jvm.Cond} {P : Jvm.Cond → Bool} (h1 : L.all (fun c => isCode c || P c) = true) (h2 : ∀ c ∈ L.filter isCode, P c = true) : L.all P = true := by
  refine List.all_eq_true.mpr fun c hc => ?_
  have h := List.all_eq_true.mp h1 c hc
  rcases Bool.eq_false_or_eq_true (isCode c) with hi | hi
  · exact h2 c (List.mem_filter.mpr ⟨hc, hi⟩)
  · simpa [hi] using h
set_option maxRecDepth 65536 in
theorem w_c0 : (Jvm.Cond.code x code maxLocals ret).before args0 about1 = true := code_word (m := ⟨1, 1⟩) (meth := k1m1) (c := k1c1) (by decide +kernel) rfl rfl rfl (by decide +kernel)
set_option maxRecDepth 65536 in
theorem w_c1 : (Jvm.Cond.code ({ cls := "com/example/chaise/chaise/formats/SourceText", name := "length", desc := "(I)I" } : Jvm.MethodName) prog_140_method_3_code (2 : Nat) (Option.some Jvm.ClassFile.FieldType.int)).before args0 about1 = true := code_word (m := ⟨4, 0⟩) (meth := k4m0) (c := k4c0) (by decide +kernel) rfl rfl rfl (by decide +kernel)
def codes1 : List Jvm.Cond := [Jvm.Cond.code x code maxLocals ret, Jvm.Cond.code ({ cls := "com/example/chaise/chaise/formats/SourceText", name := "length", desc := "(I)I" } : Jvm.MethodName) prog_140_method_3_code (2 : Nat) (Option.some Jvm.ClassFile.FieldType.int)]
set_option maxRecDepth 65536 in
theorem codes_eq : words1.filter isCode = codes1 := rfl
theorem w_codes : ∀ c ∈ words1.filter isCode, c.before args0 about1 = true := by
  rw [codes_eq]
  intro c hc
  simp only [codes1, List.mem_cons, List.not_mem_nil, or_false] at hc
  rcases hc with rfl | rfl
  · exact w_c0
  · exact w_c1
set_option maxRecDepth 65536 in
theorem w_t1 : words1.all (fun c => isCode c || c.before args0 about1) = true := by decide +kernel
theorem w_tables : (allAtoms (Jvm.Cond.code x code maxLocals ret :: tables_1)).before args0 about1 = true := by
  rw [allAtoms_all]
  show words1.all (fun c => c.before args0 about1) = true
  refine all_split ?_ w_codes
  rw [w_t1]
set_option maxRecDepth 65536 in
theorem w_case : (Jvm.Cond.and given_1 narrow_1).before args0 about1 = true := by decide +kernel
theorem w_applies : (headSpec (Jvm.Cond.code x code maxLocals ret :: tables_1) room_1).applies x e0.platform about1 = true :=
  (Spec.applies_iff w_frames).mpr ⟨w_running, w_runnable, w_alone, w_named, w_hears, w_ripe, w_room, w_tables⟩
theorem atStart : AtStart classFile x code maxLocals ret World_1 tables_1 room_1 Calls_1 rest_1 Pre_1 launch0 p0 e0 about1 theMethod args0 below0 :=
  ⟨lists_1, trivial, launch0.admits_env _ _ _, launch0.least_env, fairChoices_fair.cas, fairChoices_fair.clock, w_frames, w_args, w_heap, w_applies, trivial, trivial, w_case⟩
end start1
theorem witness_1 : WitnessClaimed_1 := ⟨start1.p0, start1.e0, start1.about1, start1.theMethod, start1.args0, start1.below0, start1.atStart⟩
end Jvm.Pilot.@@N@@
