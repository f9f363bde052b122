import JvmDerived
import JvmDerived.Pilot.@@N@@Statement
import JvmDerived.Pilot.@@N@@Code
set_option linter.unusedVariables false
set_option linter.unusedSimpArgs false
namespace Jvm.Pilot.@@N@@
open Jvm Jvm.ClassFile Sem Op Lib Jvm.Free Jvm.Stand Jvm.LawKit Jvm.RoadKit Bundle Jvm.Pilot.@@N@@.Jvm.D
/-! OWN PRELUDE: a walk in continuation form: 'Goes .. U': from U on the body comes to its return, with Q -/
section OwnPrelude
variable {p : Program} {l : Launch} {e : Env} {R : Room} {s : State} {m : MethodId} {args : Array Value} {below : List Frame} {meth : Method} {c : Code} {T U U' : State} {locs : List Loc} {cells slots ce sl : Nat} {Q : Option Value → Heap → List Loc → Prop}
def Goes (p : Program) (e : Env) (s : State) (below : List Frame) (Q : Option Value → Heap → List Loc → Prop) (ce sl : Nat) (U : State) : Prop :=
  ∃ t o, Steps p.tables e below U t ∧ t.status = .running ∧ Ended t below o ∧ ∃ v L, o = .returned v ∧ Q v t.heap L ∧ FrameEnd s o t L ce sl
theorem Goes.st (h : ∀ t, Steps p.tables e below U' t → Steps p.tables e below U t) (k : Goes p e s below Q ce sl U') : Goes p e s below Q ce sl U := by
  obtain ⟨t, o, h1, r⟩ := k
  exact ⟨t, o, h t h1, r⟩
theorem Goes.tr (h : Steps p.tables e below U U') (k : Goes p e s below Q ce sl U') : Goes p e s below Q ce sl U := by
  obtain ⟨t, o, h1, r⟩ := k
  exact ⟨t, o, h.trans h1, r⟩
theorem Goes.out (X : Stand p l e R s m args below meth c T locs cells slots) (hlocks : meth.locks = false) {v : Option Value} (hv : meth.sig.returnType = none → v = none) (hc : cells ≤ ce) (hs : slots ≤ sl) (hq : Q v T.heap locs)
    (k : ∀ fs, (∀ (f : JFrame) (acts : List Action), f.method = m → f.locked = none → f.entered = [] → (doReturn e (T.setTop f) acts v).1 = T.setFrames fs) → Steps p.tables e below U (T.setFrames fs)) : Goes p e s below Q ce sl U := by
  obtain ⟨fs, hr, hrun, hended, hW, hsame⟩ := X.leave (v := v) hv hlocks
  exact ⟨_, _, k fs hr, hrun, hended, _, _, rfl, hq, ⟨_, rfl⟩, hW, hsame.mono hc hs⟩
theorem Goes.retI (X : Stand p l e R s m args below meth c T locs cells slots) (hx : p.tables.exec = Jvm.exec) (hlocks : meth.locks = false) {pc : Nat} {Ls : Array Slot} {z : Int32} {rest : List Value} (hret : meth.sig.returnType = some .int) (hd : decode c.code pc = .ok (.ireturn, 1))
    (hc : cells ≤ ce) (hs : slots ≤ sl) (hq : Q (some (.int z)) T.heap locs) : Goes p e s below Q ce sl (T.setTop (mkF m pc Ls (.int z :: rest))) :=
  Goes.out X hlocks (fun h => by rw [hret] at h; cases h) hc hs hq fun fs hl => retOut X hx hret rfl (Or.inl ⟨rfl, Or.inl rfl, _, rfl⟩) hd hl
theorem Goes.retZ (X : Stand p l e R s m args below meth c T locs cells slots) (hx : p.tables.exec = Jvm.exec) (hlocks : meth.locks = false) {pc : Nat} {Ls : Array Slot} {z : Int32} {rest : List Value} (hret : meth.sig.returnType = some .boolean) (hd : decode c.code pc = .ok (.ireturn, 1))
    (hz : z &&& 1 = z) (hc : cells ≤ ce) (hs : slots ≤ sl) (hq : Q (some (.int z)) T.heap locs) : Goes p e s below Q ce sl (T.setTop (mkF m pc Ls (.int z :: rest))) :=
  Goes.out X hlocks (fun h => by rw [hret] at h; cases h) hc hs hq fun fs hl => retOut X hx hret (by show Value.int (z &&& 1) = _; rw [hz]) (Or.inl ⟨rfl, Or.inr (Or.inl rfl), _, rfl⟩) hd hl
theorem Goes.retJ (X : Stand p l e R s m args below meth c T locs cells slots) (hx : p.tables.exec = Jvm.exec) (hlocks : meth.locks = false) {pc : Nat} {Ls : Array Slot} {z : Int64} {rest : List Value} (hret : meth.sig.returnType = some .long) (hd : decode c.code pc = .ok (.lreturn, 1))
    (hc : cells ≤ ce) (hs : slots ≤ sl) (hq : Q (some (.long z)) T.heap locs) : Goes p e s below Q ce sl (T.setTop (mkF m pc Ls (.long z :: rest))) :=
  Goes.out X hlocks (fun h => by rw [hret] at h; cases h) hc hs hq fun fs hl => retOut X hx hret rfl (Or.inr (Or.inl ⟨rfl, rfl, _, rfl⟩)) hd hl
theorem Goes.retA (X : Stand p l e R s m args below meth c T locs cells slots) (hx : p.tables.exec = Jvm.exec) (hlocks : meth.locks = false) {pc : Nat} {Ls : Array Slot} {w : Value} {t : FieldType} {rest : List Value} (hret : meth.sig.returnType = some t) (hd : decode c.code pc = .ok (.areturn, 1))
    (ht : t.isReference = true) (hw : w.isRef = true) (hn : narrow t w = w) (hc : cells ≤ ce) (hs : slots ≤ sl) (hq : Q (some w) T.heap locs) : Goes p e s below Q ce sl (T.setTop (mkF m pc Ls (w :: rest))) :=
  Goes.out X hlocks (fun h => by rw [hret] at h; cases h) hc hs hq fun fs hl => retOut X hx hret hn (Or.inr (Or.inr (Or.inr (Or.inr ⟨rfl, ht, hw⟩)))) hd hl
theorem Goes.retV (X : Stand p l e R s m args below meth c T locs cells slots) (hx : p.tables.exec = Jvm.exec) (hlocks : meth.locks = false) {pc : Nat} {Ls : Array Slot} (hret : meth.sig.returnType = none) (hd : decode c.code pc = .ok (.return_, 1))
    (hc : cells ≤ ce) (hs : slots ≤ sl) (hq : Q none T.heap locs) : Goes p e s below Q ce sl (T.setTop (mkF m pc Ls [])) :=
  Goes.out X hlocks (fun _ => rfl) hc hs hq fun fs hl => X.returnOut hx hret hd hl
/-- a boolean as the machine has it -/
def b2i (b : Bool) : Int32 := if b then 1 else 0
theorem b2i_one (b : Bool) : b2i b &&& 1 = b2i b := by cases b <;> rfl
theorem b2i_t {b : Bool} (h : ¬ b2i b = 0) : b = true := by cases b; exact absurd rfl h; rfl
theorem b2i_f {b : Bool} (h : b2i b = 0) : b = false := by cases b; rfl; exact absurd h (by decide)
theorem Exa_ns {Z : State} {h : Heap} {a : Addr} {C : String} (E : Exa Z h a C) : ∀ cell : Cell, h[a]? = some cell → cell.vm.isStatics = false := fun cell hc => by
  obtain ⟨c1, _, h1, -, -, h4, -⟩ := E
  cases h1.symm.trans hc
  exact h4
theorem Sta_keep {Z : State} {h h' : Heap} {C n d : String} {v : Value} {ws : List Addr} (F : Sta Z h C n d v) (K : Keep h h' ws) (q : ∀ x ∈ ws, ∀ cell : Cell, h[x]? = some cell → cell.vm.isStatics = false) : Sta Z h' C n d v := by
  obtain ⟨cf, i, k, f, st, cell, h1, h2, h3, h4, h5, h6, h7⟩ := F
  exact ⟨cf, i, k, f, st, cell, h1, h2, h3, h4, K.2.1 _ _ h5 (fun y => by have := q _ y _ h5; rw [h6] at this; cases this), h6, h7⟩
theorem own_selp {u : State} {as : Array Value} {y : MethodName} {n : Nat} (hins : (Cond.instantiable y.cls n).before as u = true) (hpriv : u.PrivateAt y) (hinst : (Cond.instanceMethod y).before as u = true) (hy : y.cls ≠ "java/lang/invoke/MethodHandle" ∧ y.cls ≠ "java/lang/invoke/VarHandle") : (Cond.selects y.cls y y).before as u = true := by
  obtain ⟨c, k, hc, hk, -, hniab, -, -⟩ := Cond.instantiable_spec hins
  exact selects_self_of_private hc hk (Bool.or_eq_false_iff.mp hniab).1 hpriv hinst hy
end OwnPrelude

/-- an IntList: the object, its array, its capacity, what it holds -/
def IL (Z : State) (h : Heap) (a arr : Addr) (k : ClassId) (z : Int32) (xs : List Int32) : Prop :=
  Exa Z h a "com/example/cosine/cosine/index/IntList" ∧ Fld Z h a "com/example/cosine/cosine/index/IntList" "size" "I" (.int xs.length.toInt32) ∧ Fld Z h a "com/example/cosine/cosine/index/IntList" "values" "[I" (.ref arr) ∧ Arv Z h arr k .int z (xs.map .int) (.int 0) ∧ Exa Z h arr "[I" ∧ xs.length ≤ z.toNatClampNeg ∧ z.toNatClampNeg ≤ 8 ∧ ¬ z < 0 ∧ a ≠ arr
theorem IL.keep {Z : State} {h h' : Heap} {a arr : Addr} {k : ClassId} {z : Int32} {xs : List Int32} {ws : List Addr} (I : IL Z h a arr k z xs) (K : Keep h h' ws) (h1 : a ∉ ws) (h2 : arr ∉ ws) : IL Z h' a arr k z xs := by
  obtain ⟨i1, i2, i3, i4, i5, r⟩ := I
  exact ⟨i1.keep K, i2.keep K h1, i3.keep K h1, i4.keep K h2, i5.keep K, r⟩
theorem own_push {Z : State} {h h' : Heap} {a : Addr} {k : ClassId} {ty : FieldType} {z j : Int32} {vs : List Value} {dv v : Value} {c : Cell} (A : Arr Z h a c ty) (q1 : c.cls = k) (S : c.slots.size = z.toNatClampNeg) (q3 : ¬ z < 0) (H : Has c vs dv) (G : ∀ i, i < c.slots.size → fits ty (vs.getD i dv) = true)
    (hv : fits ty v = true) (W : Wr h h' a j.toNatClampNeg v) (hj : j.toNatClampNeg = vs.length) : Arv Z h' a k ty z (vs ++ [v]) dv := by
  have q := Arv.set (vs := vs ++ List.replicate 1 dv) A q1 S q3 (fun i hi => by rw [pad_rep]; exact H i hi) (fun i hi => by rw [pad_rep]; exact G i hi) hv W vs.length hj (by simp)
  have e : (vs ++ List.replicate 1 dv).set vs.length v = vs ++ [v] := by simp
  rwa [e] at q
theorem own_small (n : Nat) (h : n ≤ 3) : n = 0 ∨ n = 1 ∨ n = 2 ∨ n = 3 := by omega
theorem own_nat (n : Nat) (h : n ≤ 3) : ¬ n.toInt32 < 0 ∧ n.toInt32.toNatClampNeg = n ∧ (n + 1).toInt32 = n.toInt32 + (1 : Int32) := by
  rcases own_small n h with rfl | rfl | rfl | rfl <;> decide +kernel
theorem own_lt (i z : Int32) (n : Nat) (h : n ≤ z.toNatClampNeg) (hi : ¬ i < 0) (hn : i.toNatClampNeg < n) : ¬ i < 0 ∧ i < z := by
  refine ⟨hi, ?_⟩
  rw [Int32.lt_iff_toInt_lt]
  rw [Int32.lt_iff_toInt_lt] at hi
  have e : (0 : Int32).toInt = 0 := rfl
  simp only [Int32.toNatClampNeg] at h hn
  omega
theorem own_full (n : Nat) (z : Int32) (h3 : n ≤ 3) (h : n ≤ z.toNatClampNeg) (hz : ¬ z < 0) (hne : ¬ n.toInt32 = z) : n + 1 ≤ z.toNatClampNeg := by
  refine Nat.lt_of_le_of_ne h fun q => hne ?_
  have e := (own_nat n h3).2.1
  rw [← Int32.toInt_inj]
  have h1 := (own_nat n h3).1
  rw [Int32.lt_iff_toInt_lt] at h1 hz
  have e0 : (0 : Int32).toInt = 0 := rfl
  simp only [Int32.toNatClampNeg] at e q
  omega

theorem d1_0 : decode prog_18_method_1_code 0 = .ok (.aload_n 0, 1) := by decide +kernel
theorem d1_1 : decode prog_18_method_1_code 1 = .ok (.invokespecial 3, 3) := by decide +kernel
theorem d1_4 : decode prog_18_method_1_code 4 = .ok (.aload_n 0, 1) := by decide +kernel
theorem d1_5 : decode prog_18_method_1_code 5 = .ok (.iload_n 1, 1) := by decide +kernel
theorem d1_6 : decode prog_18_method_1_code 6 = .ok (.newarray .int, 2) := by decide +kernel
theorem d1_8 : decode prog_18_method_1_code 8 = .ok (.putfield 9, 3) := by decide +kernel
theorem d1_11 : decode prog_18_method_1_code 11 = .ok (.return_, 1) := by decide +kernel
theorem pn_0 : plainName "com/example/cosine/cosine/index/IntList" = true := by first | (simp [plainName, overriddenIn]; done) | decide +kernel
theorem ef_rm1 (m : MethodId) (a1 : Addr) (p2 : Int32) : entryFrame m #[(.ref a1), (.int p2)] 2 = mkF m 0 #[.val (.ref a1), .val (.int p2)] [] := by first | (simp [entryFrame, mkF, argsToLocals, Value.category]; done) | rfl
def Q1 (Z : State) (a1 : Addr) (p2 : Int32) (h0 : Heap) (n0 : Nat) (v : Option Value) (h : Heap) (L : List Loc) : Prop := v = none ∧ Fr n0 L ∧ Keep h0 h [a1] ∧ ∃ arr k, IL Z h a1 arr k p2 [] ∧ n0 ≤ arr ∧ h0.size ≤ arr
set_option maxRecDepth 65536 in
set_option maxHeartbeats 40000000 in
theorem rm1 (l : Launch) (Z : State) (a0 : Array Value) (hw : ∀ d ∈ tables_1, d.before a0 Z = true) (ws : List Jvm.Cond) (a1 : Addr) (p2 : Int32) (h0 : Heap) (n0 : Nat) (Z0 : n0 ≤ h0.size) (E_a1 : Exa Z h0 a1 "com/example/cosine/cosine/index/IntList") (F_values_a1 : Fld Z h0 a1 "com/example/cosine/cosine/index/IntList" "values" "[I" .null) (F_size_a1 : Fld Z h0 a1 "com/example/cosine/cosine/index/IntList" "size" "I" (.int (0 : Int32))) (g_a1 : n0 ≤ a1) (hp : ¬ p2 < 0) (hcap : p2.toNatClampNeg ≤ 8) :
    MetFree l (⟨"com/example/cosine/cosine/index/IntList", "<init>", "(I)V"⟩ : MethodName) (head1 (Jvm.Cond.code (⟨"com/example/cosine/cosine/index/IntList", "<init>", "(I)V"⟩ : MethodName) prog_18_method_1_code 2 none :: ws) ({ frames := 1, cells := 1, slots := 8, locals := 12 } : Room)) (fun a U => a = #[(.ref a1), (.int p2)] ∧ Z.Warmed39 U.vm ∧ U.heap = h0) (fun _ _ _ _ _ => True) (fun _ U o U' => ∃ v L, o = .returned v ∧ Q1 Z a1 p2 h0 n0 v U'.heap L ∧ FrameEnd U o U' L ({ frames := 1, cells := 1, slots := 8, locals := 12 } : Room).cells ({ frames := 1, cells := 1, slots := 8, locals := 12 } : Room).slots) := by
  refine MetFree.of_bodySF (plainFor_of_name pn_0) hisR ?_
  intro p e s m args below meth c s₁ Bd hml0 hP hK
  obtain ⟨rfl, hZ, hh⟩ := hP
  have hx := Bd.exec
  have hby := Bd.bytes
  have hml : c.maxLocals = 2 := hml0
  have hown : s.vm.findClass "com/example/cosine/cosine/index/IntList" = some m.cls := findClass_of_methodNamed Bd.named
  have hnm := (name_of_methodNamed Bd.named Bd.method).1
  have X0 : Stand p l e ({ frames := 1, cells := 1, slots := 8, locals := 12 } : Room) s m #[(.ref a1), (.int p2)] below meth c s₁ [] 0 0 := Stand.of_body Bd
  have e0 : s₁.heap = h0 := by rw [← hh, Bd.state]; rfl
  have N0 := Fr.nil n0
  show Goes p e s below (fun v h L => Q1 Z a1 p2 h0 n0 v h L) ({ frames := 1, cells := 1, slots := 8, locals := 12 } : Room).cells ({ frames := 1, cells := 1, slots := 8, locals := 12 } : Room).slots (s₁.setTop (entryFrame m #[(.ref a1), (.int p2)] 2))
  refine Goes.st (U' := s₁.setTop (mkF m 0 #[.val (.ref a1), .val (.int p2)] [])) (fun t k => castTop (ef_rm1 m a1 p2) k) ?_
  refine Goes.st (U' := s₁.setTop (mkF m 1 #[.val (.ref a1), .val (.int p2)] [(.ref a1)])) (fun t k => XS.aloadN X0.here hx rfl (hb hby d1_0) rfl rfl k) ?_
  obtain ⟨T1, X1, e1, st1⟩ := initO X0 hx hZ hown (hw _ (List.mem_of_getElem? (i := 6) rfl)) (hw _ (List.mem_of_getElem? (i := 7) rfl)) (hw _ (List.mem_of_getElem? (i := 8) rfl)) e0 (g := (mkF m 1 #[.val (.ref a1), .val (.int p2)] [(.ref a1)])) rfl (by rw [hml]; rfl) rfl (hb hby d1_1) (by decide) (W := 0) (by show 2 * 0 + _ ≤ _; exact Nat.le_of_eq rfl) (by decide)
  refine Goes.st (U' := T1.setTop (mkF m 4 #[.val (.ref a1), .val (.int p2)] [])) (fun t k => st1 t k) ?_
  refine Goes.st (U' := T1.setTop (mkF m 5 #[.val (.ref a1), .val (.int p2)] [(.ref a1)])) (fun t k => XS.aloadN X1.here hx rfl (hb hby d1_4) rfl rfl k) ?_
  refine Goes.st (U' := T1.setTop (mkF m 6 #[.val (.ref a1), .val (.int p2)] [(.int p2), (.ref a1)])) (fun t k => XS.iloadN X1.here hx rfl (hb hby d1_5) rfl k) ?_
  obtain ⟨T2, h2, k2, X2, e2, E2, A2, Ea2, st2⟩ := newPE X1 hx hZ (hw _ (List.mem_of_getElem? (i := 9) rfl)) e1 (g := (mkF m 6 #[.val (.ref a1), .val (.int p2)] [(.int p2), (.ref a1)])) rfl (hb hby d1_6) rfl hp (cap := 8) hcap (by decide) (by decide) (by decide) (ad := "[I") rfl
  obtain ⟨b2, g2⟩ : ∃ z, z = h0.size := ⟨_, rfl⟩
  rw [← g2] at A2 Ea2 st2
  have ne_a1_b2 : a1 ≠ b2 := Nat.ne_of_lt (Nat.lt_of_lt_of_le E_a1.lt (Nat.le_of_eq g2.symm))
  have g_b2 : n0 ≤ b2 := Nat.le_trans Z0 (Nat.le_of_eq g2.symm)
  have sz_b2 : h0.size ≤ b2 := Nat.le_trans (Keep.refl h0 [a1]).1 (Nat.le_of_eq g2.symm)
  have K_3 : Keep h0 h2 [a1] := (Keep.refl h0 [a1]).ext E2
  have V_b2 : Arv Z h2 b2 k2 .int p2 [] (.int (0 : Int32)) := Arv.new A2 hp
  refine Goes.st (U' := T2.setTop (mkF m 8 #[.val (.ref a1), .val (.int p2)] [(.ref b2), (.ref a1)])) (fun t k => st2 t k) ?_
  obtain ⟨T4, h4, X4, e4, W4, st4⟩ := putF X2 hx hZ hown (host := "") (Or.inl (hw _ (List.mem_of_getElem? (i := 10) rfl))) Via.refl e2 (F_values_a1.ext E2) (E_a1.ext E2) (Or.inl (hw _ (List.mem_of_getElem? (i := 11) rfl))) (hw _ (List.mem_of_getElem? (i := 1) rfl)) (ty := (.array .int)) (by decide) rfl rfl (g := (mkF m 8 #[.val (.ref a1), .val (.int p2)] [(.ref b2), (.ref a1)])) rfl rfl (hb hby d1_8)
  have Fw4 := (F_values_a1.ext E2).same W4
  have N4 := Fr.snoc X4 N0 g_a1
  have K_5 : Keep h0 h4 [a1] := K_3.wr W4 (Or.inl (List.mem_of_getElem? (i := 0) rfl))
  refine Goes.st (U' := T4.setTop (mkF m 11 #[.val (.ref a1), .val (.int p2)] [])) (fun t k => st4 t k) ?_
  refine Goes.retV X4 hx (BodyLoose.notSynchronized Bd) Bd.returns (hb hby d1_11) (by decide) (by decide) ?_
  show Q1 Z a1 p2 h0 n0 _ T4.heap _
  rw [e4]
  exact ⟨rfl, N4, K_5, b2, k2, ⟨((E_a1.ext E2).wr W4), ((F_size_a1.ext E2).other W4 (Or.inr (slot_ne (Or.inl (hw _ (List.mem_of_getElem? (i := 18) rfl))) (Or.inl (hw _ (List.mem_of_getElem? (i := 11) rfl))) (by decide) (t := .int) (t' := (.array .int)) (by decide) (by decide)))), Fw4, (V_b2.other W4 (Ne.symm ne_a1_b2)), (Ea2.wr W4), Nat.zero_le _, hcap, hp, ne_a1_b2⟩, g_b2, sz_b2⟩
theorem d4_0 : decode jdk_29_method_66_code 0 = .ok (.lload_n 0, 1) := by decide +kernel
theorem d4_1 : decode jdk_29_method_66_code 1 = .ok (.lload_n 2, 1) := by decide +kernel
theorem d4_2 : decode jdk_29_method_66_code 2 = .ok (.lcmp, 1) := by decide +kernel
theorem d4_3 : decode jdk_29_method_66_code 3 = .ok (.ifCond .lt 7, 3) := by decide +kernel
theorem d4_6 : decode jdk_29_method_66_code 6 = .ok (.lload_n 0, 1) := by decide +kernel
theorem d4_7 : decode jdk_29_method_66_code 7 = .ok (.goto 4, 3) := by decide +kernel
theorem d4_10 : decode jdk_29_method_66_code 10 = .ok (.lload_n 2, 1) := by decide +kernel
theorem d4_11 : decode jdk_29_method_66_code 11 = .ok (.lreturn, 1) := by decide +kernel
theorem ef_rm4 (m : MethodId) (q1 : Int64) (q2 : Int64) : entryFrame m #[(.long q1), (.long q2)] 4 = mkF m 0 #[.val (.long q1), .second, .val (.long q2), .second] [] := by first | (simp [entryFrame, mkF, argsToLocals, Value.category]; done) | rfl
def fn4 (q1 : Int64) (q2 : Int64) : Int64 := (if q1 < q2 then q2 else q1)
def Q4 (Z : State) (q1 : Int64) (q2 : Int64) (h0 : Heap) (n0 : Nat) (v : Option Value) (h : Heap) (L : List Loc) : Prop := v = some (.long (fn4 q1 q2)) ∧ Fr n0 L ∧ h = h0
set_option maxRecDepth 65536 in
set_option maxHeartbeats 40000000 in
theorem rm4 (l : Launch) (Z : State) (a0 : Array Value) (hw : ∀ d ∈ tables_1, d.before a0 Z = true) (ws : List Jvm.Cond) (q1 : Int64) (q2 : Int64) (h0 : Heap) (n0 : Nat) (Z0 : n0 ≤ h0.size) :
    MetFree l (⟨"java/lang/Math", "max", "(JJ)J"⟩ : MethodName) (head1 (Jvm.Cond.code (⟨"java/lang/Math", "max", "(JJ)J"⟩ : MethodName) jdk_29_method_66_code 4 (some .long) :: ws) ({ frames := 0, cells := 0, slots := 0, locals := 0 } : Room)) (fun a U => a = #[(.long q1), (.long q2)] ∧ Z.Warmed39 U.vm ∧ U.heap = h0) (fun _ _ _ _ _ => True) (fun _ U o U' => ∃ v L, o = .returned v ∧ Q4 Z q1 q2 h0 n0 v U'.heap L ∧ FrameEnd U o U' L ({ frames := 0, cells := 0, slots := 0, locals := 0 } : Room).cells ({ frames := 0, cells := 0, slots := 0, locals := 0 } : Room).slots) := by
  refine MetFree.of_bodySF (Jvm.Free.JP.mathPlain rfl (by decide +kernel)) hisR ?_
  intro p e s m args below meth c s₁ Bd hml0 hP hK
  obtain ⟨rfl, hZ, hh⟩ := hP
  have hx := Bd.exec
  have hby := Bd.bytes
  have hml : c.maxLocals = 4 := hml0
  have hown : s.vm.findClass "java/lang/Math" = some m.cls := findClass_of_methodNamed Bd.named
  have hnm := (name_of_methodNamed Bd.named Bd.method).1
  have X0 : Stand p l e ({ frames := 0, cells := 0, slots := 0, locals := 0 } : Room) s m #[(.long q1), (.long q2)] below meth c s₁ [] 0 0 := Stand.of_body Bd
  have e0 : s₁.heap = h0 := by rw [← hh, Bd.state]; rfl
  have N0 := Fr.nil n0
  show Goes p e s below (fun v h L => Q4 Z q1 q2 h0 n0 v h L) ({ frames := 0, cells := 0, slots := 0, locals := 0 } : Room).cells ({ frames := 0, cells := 0, slots := 0, locals := 0 } : Room).slots (s₁.setTop (entryFrame m #[(.long q1), (.long q2)] 4))
  refine Goes.st (U' := s₁.setTop (mkF m 0 #[.val (.long q1), .second, .val (.long q2), .second] [])) (fun t k => castTop (ef_rm4 m q1 q2) k) ?_
  refine Goes.st (U' := s₁.setTop (mkF m 1 #[.val (.long q1), .second, .val (.long q2), .second] [(.long q1)])) (fun t k => XS.lloadN X0.here hx rfl (hb hby d4_0) rfl k) ?_
  refine Goes.st (U' := s₁.setTop (mkF m 2 #[.val (.long q1), .second, .val (.long q2), .second] [(.long q2), (.long q1)])) (fun t k => XS.lloadN X0.here hx rfl (hb hby d4_1) rfl k) ?_
  refine Goes.st (U' := s₁.setTop (mkF m 3 #[.val (.long q1), .second, .val (.long q2), .second] [(.int (lcmpW q1 q2))])) (fun t k => XS.lcmp X0.here hx rfl (hb hby d4_2) rfl k) ?_
  rcases Decidable.em (q1 < q2) with hc3 | hc3
  · refine Goes.st (U' := s₁.setTop (mkF m 10 #[.val (.long q1), .second, .val (.long q2), .second] [])) (fun t k => XS.ifYes X0.here hx rfl (pc0 := 3) (pc' := 10) rfl (hb hby d4_3) rfl ((if0 _ _).trans (tlt ((lw_lt _ _).mpr hc3)).1) (by decide) (by decide) k) ?_
    refine Goes.st (U' := s₁.setTop (mkF m 11 #[.val (.long q1), .second, .val (.long q2), .second] [(.long q2)])) (fun t k => XS.lloadN X0.here hx rfl (hb hby d4_10) rfl k) ?_
    refine Goes.retJ X0 hx (BodyLoose.notSynchronized Bd) Bd.returns (hb hby d4_11) (by decide) (by decide) ?_
    show Q4 Z q1 q2 h0 n0 _ s₁.heap _
    rw [e0]
    exact ⟨(congrArg some (congrArg _ (by unfold fn4; rw [if_pos hc3]))), N0, rfl⟩
  · refine Goes.st (U' := s₁.setTop (mkF m 6 #[.val (.long q1), .second, .val (.long q2), .second] [])) (fun t k => XS.ifNo X0.here hx rfl (hb hby d4_3) rfl ((if0 _ _).trans (flt (fun q => hc3 ((lw_lt _ _).mp q))).1) k) ?_
    refine Goes.st (U' := s₁.setTop (mkF m 7 #[.val (.long q1), .second, .val (.long q2), .second] [(.long q1)])) (fun t k => XS.lloadN X0.here hx rfl (hb hby d4_6) rfl k) ?_
    refine Goes.st (U' := s₁.setTop (mkF m 11 #[.val (.long q1), .second, .val (.long q2), .second] [(.long q1)])) (fun t k => XS.goto X0.here hx rfl (pc0 := 7) (pc' := 11) rfl (hb hby d4_7) (by decide) (by decide) k) ?_
    refine Goes.retJ X0 hx (BodyLoose.notSynchronized Bd) Bd.returns (hb hby d4_11) (by decide) (by decide) ?_
    show Q4 Z q1 q2 h0 n0 _ s₁.heap _
    rw [e0]
    exact ⟨(congrArg some (congrArg _ (by unfold fn4; rw [if_neg hc3]))), N0, rfl⟩
theorem d5_0 : decode jdk_29_method_70_code 0 = .ok (.lload_n 0, 1) := by decide +kernel
theorem d5_1 : decode jdk_29_method_70_code 1 = .ok (.lload_n 2, 1) := by decide +kernel
theorem d5_2 : decode jdk_29_method_70_code 2 = .ok (.lcmp, 1) := by decide +kernel
theorem d5_3 : decode jdk_29_method_70_code 3 = .ok (.ifCond .gt 7, 3) := by decide +kernel
theorem d5_6 : decode jdk_29_method_70_code 6 = .ok (.lload_n 0, 1) := by decide +kernel
theorem d5_7 : decode jdk_29_method_70_code 7 = .ok (.goto 4, 3) := by decide +kernel
theorem d5_10 : decode jdk_29_method_70_code 10 = .ok (.lload_n 2, 1) := by decide +kernel
theorem d5_11 : decode jdk_29_method_70_code 11 = .ok (.lreturn, 1) := by decide +kernel
theorem ef_rm5 (m : MethodId) (q1 : Int64) (q2 : Int64) : entryFrame m #[(.long q1), (.long q2)] 4 = mkF m 0 #[.val (.long q1), .second, .val (.long q2), .second] [] := by first | (simp [entryFrame, mkF, argsToLocals, Value.category]; done) | rfl
def fn5 (q1 : Int64) (q2 : Int64) : Int64 := (if q2 < q1 then q2 else q1)
def Q5 (Z : State) (q1 : Int64) (q2 : Int64) (h0 : Heap) (n0 : Nat) (v : Option Value) (h : Heap) (L : List Loc) : Prop := v = some (.long (fn5 q1 q2)) ∧ Fr n0 L ∧ h = h0
set_option maxRecDepth 65536 in
set_option maxHeartbeats 40000000 in
theorem rm5 (l : Launch) (Z : State) (a0 : Array Value) (hw : ∀ d ∈ tables_1, d.before a0 Z = true) (ws : List Jvm.Cond) (q1 : Int64) (q2 : Int64) (h0 : Heap) (n0 : Nat) (Z0 : n0 ≤ h0.size) :
    MetFree l (⟨"java/lang/Math", "min", "(JJ)J"⟩ : MethodName) (head1 (Jvm.Cond.code (⟨"java/lang/Math", "min", "(JJ)J"⟩ : MethodName) jdk_29_method_70_code 4 (some .long) :: ws) ({ frames := 0, cells := 0, slots := 0, locals := 0 } : Room)) (fun a U => a = #[(.long q1), (.long q2)] ∧ Z.Warmed39 U.vm ∧ U.heap = h0) (fun _ _ _ _ _ => True) (fun _ U o U' => ∃ v L, o = .returned v ∧ Q5 Z q1 q2 h0 n0 v U'.heap L ∧ FrameEnd U o U' L ({ frames := 0, cells := 0, slots := 0, locals := 0 } : Room).cells ({ frames := 0, cells := 0, slots := 0, locals := 0 } : Room).slots) := by
  refine MetFree.of_bodySF (Jvm.Free.JP.mathPlain rfl (by decide +kernel)) hisR ?_
  intro p e s m args below meth c s₁ Bd hml0 hP hK
  obtain ⟨rfl, hZ, hh⟩ := hP
  have hx := Bd.exec
  have hby := Bd.bytes
  have hml : c.maxLocals = 4 := hml0
  have hown : s.vm.findClass "java/lang/Math" = some m.cls := findClass_of_methodNamed Bd.named
  have hnm := (name_of_methodNamed Bd.named Bd.method).1
  have X0 : Stand p l e ({ frames := 0, cells := 0, slots := 0, locals := 0 } : Room) s m #[(.long q1), (.long q2)] below meth c s₁ [] 0 0 := Stand.of_body Bd
  have e0 : s₁.heap = h0 := by rw [← hh, Bd.state]; rfl
  have N0 := Fr.nil n0
  show Goes p e s below (fun v h L => Q5 Z q1 q2 h0 n0 v h L) ({ frames := 0, cells := 0, slots := 0, locals := 0 } : Room).cells ({ frames := 0, cells := 0, slots := 0, locals := 0 } : Room).slots (s₁.setTop (entryFrame m #[(.long q1), (.long q2)] 4))
  refine Goes.st (U' := s₁.setTop (mkF m 0 #[.val (.long q1), .second, .val (.long q2), .second] [])) (fun t k => castTop (ef_rm5 m q1 q2) k) ?_
  refine Goes.st (U' := s₁.setTop (mkF m 1 #[.val (.long q1), .second, .val (.long q2), .second] [(.long q1)])) (fun t k => XS.lloadN X0.here hx rfl (hb hby d5_0) rfl k) ?_
  refine Goes.st (U' := s₁.setTop (mkF m 2 #[.val (.long q1), .second, .val (.long q2), .second] [(.long q2), (.long q1)])) (fun t k => XS.lloadN X0.here hx rfl (hb hby d5_1) rfl k) ?_
  refine Goes.st (U' := s₁.setTop (mkF m 3 #[.val (.long q1), .second, .val (.long q2), .second] [(.int (lcmpW q1 q2))])) (fun t k => XS.lcmp X0.here hx rfl (hb hby d5_2) rfl k) ?_
  rcases Decidable.em (q2 < q1) with hc3 | hc3
  · refine Goes.st (U' := s₁.setTop (mkF m 10 #[.val (.long q1), .second, .val (.long q2), .second] [])) (fun t k => XS.ifYes X0.here hx rfl (pc0 := 3) (pc' := 10) rfl (hb hby d5_3) rfl ((if0 _ _).trans (tlt ((lw_gt _ _).mpr hc3)).2.2.1) (by decide) (by decide) k) ?_
    refine Goes.st (U' := s₁.setTop (mkF m 11 #[.val (.long q1), .second, .val (.long q2), .second] [(.long q2)])) (fun t k => XS.lloadN X0.here hx rfl (hb hby d5_10) rfl k) ?_
    refine Goes.retJ X0 hx (BodyLoose.notSynchronized Bd) Bd.returns (hb hby d5_11) (by decide) (by decide) ?_
    show Q5 Z q1 q2 h0 n0 _ s₁.heap _
    rw [e0]
    exact ⟨(congrArg some (congrArg _ (by unfold fn5; rw [if_pos hc3]))), N0, rfl⟩
  · refine Goes.st (U' := s₁.setTop (mkF m 6 #[.val (.long q1), .second, .val (.long q2), .second] [])) (fun t k => XS.ifNo X0.here hx rfl (hb hby d5_3) rfl ((if0 _ _).trans (flt (fun q => hc3 ((lw_gt _ _).mp q))).2.2.1) k) ?_
    refine Goes.st (U' := s₁.setTop (mkF m 7 #[.val (.long q1), .second, .val (.long q2), .second] [(.long q1)])) (fun t k => XS.lloadN X0.here hx rfl (hb hby d5_6) rfl k) ?_
    refine Goes.st (U' := s₁.setTop (mkF m 11 #[.val (.long q1), .second, .val (.long q2), .second] [(.long q1)])) (fun t k => XS.goto X0.here hx rfl (pc0 := 7) (pc' := 11) rfl (hb hby d5_7) (by decide) (by decide) k) ?_
    refine Goes.retJ X0 hx (BodyLoose.notSynchronized Bd) Bd.returns (hb hby d5_11) (by decide) (by decide) ?_
    show Q5 Z q1 q2 h0 n0 _ s₁.heap _
    rw [e0]
    exact ⟨(congrArg some (congrArg _ (by unfold fn5; rw [if_neg hc3]))), N0, rfl⟩
theorem d7_0 : decode jdk_29_method_69_code 0 = .ok (.iload_n 0, 1) := by decide +kernel
theorem d7_1 : decode jdk_29_method_69_code 1 = .ok (.iload_n 1, 1) := by decide +kernel
theorem d7_2 : decode jdk_29_method_69_code 2 = .ok (.if_icmp .gt 7, 3) := by decide +kernel
theorem d7_5 : decode jdk_29_method_69_code 5 = .ok (.iload_n 0, 1) := by decide +kernel
theorem d7_6 : decode jdk_29_method_69_code 6 = .ok (.goto 4, 3) := by decide +kernel
theorem d7_9 : decode jdk_29_method_69_code 9 = .ok (.iload_n 1, 1) := by decide +kernel
theorem d7_10 : decode jdk_29_method_69_code 10 = .ok (.ireturn, 1) := by decide +kernel
theorem ef_rm7 (m : MethodId) (p1 : Int32) (p2 : Int32) : entryFrame m #[(.int p1), (.int p2)] 2 = mkF m 0 #[.val (.int p1), .val (.int p2)] [] := by first | (simp [entryFrame, mkF, argsToLocals, Value.category]; done) | rfl
def fn7 (p1 : Int32) (p2 : Int32) : Int32 := (if p2 < p1 then p2 else p1)
def Q7 (Z : State) (p1 : Int32) (p2 : Int32) (h0 : Heap) (n0 : Nat) (v : Option Value) (h : Heap) (L : List Loc) : Prop := v = some (.int (fn7 p1 p2)) ∧ Fr n0 L ∧ h = h0
set_option maxRecDepth 65536 in
set_option maxHeartbeats 40000000 in
theorem rm7 (l : Launch) (Z : State) (a0 : Array Value) (hw : ∀ d ∈ tables_1, d.before a0 Z = true) (ws : List Jvm.Cond) (p1 : Int32) (p2 : Int32) (h0 : Heap) (n0 : Nat) (Z0 : n0 ≤ h0.size) :
    MetFree l (⟨"java/lang/Math", "min", "(II)I"⟩ : MethodName) (head1 (Jvm.Cond.code (⟨"java/lang/Math", "min", "(II)I"⟩ : MethodName) jdk_29_method_69_code 2 (some .int) :: ws) ({ frames := 0, cells := 0, slots := 0, locals := 0 } : Room)) (fun a U => a = #[(.int p1), (.int p2)] ∧ Z.Warmed39 U.vm ∧ U.heap = h0) (fun _ _ _ _ _ => True) (fun _ U o U' => ∃ v L, o = .returned v ∧ Q7 Z p1 p2 h0 n0 v U'.heap L ∧ FrameEnd U o U' L ({ frames := 0, cells := 0, slots := 0, locals := 0 } : Room).cells ({ frames := 0, cells := 0, slots := 0, locals := 0 } : Room).slots) := by
  refine MetFree.of_bodySF (Jvm.Free.JP.mathPlain rfl (by decide +kernel)) hisR ?_
  intro p e s m args below meth c s₁ Bd hml0 hP hK
  obtain ⟨rfl, hZ, hh⟩ := hP
  have hx := Bd.exec
  have hby := Bd.bytes
  have hml : c.maxLocals = 2 := hml0
  have hown : s.vm.findClass "java/lang/Math" = some m.cls := findClass_of_methodNamed Bd.named
  have hnm := (name_of_methodNamed Bd.named Bd.method).1
  have X0 : Stand p l e ({ frames := 0, cells := 0, slots := 0, locals := 0 } : Room) s m #[(.int p1), (.int p2)] below meth c s₁ [] 0 0 := Stand.of_body Bd
  have e0 : s₁.heap = h0 := by rw [← hh, Bd.state]; rfl
  have N0 := Fr.nil n0
  show Goes p e s below (fun v h L => Q7 Z p1 p2 h0 n0 v h L) ({ frames := 0, cells := 0, slots := 0, locals := 0 } : Room).cells ({ frames := 0, cells := 0, slots := 0, locals := 0 } : Room).slots (s₁.setTop (entryFrame m #[(.int p1), (.int p2)] 2))
  refine Goes.st (U' := s₁.setTop (mkF m 0 #[.val (.int p1), .val (.int p2)] [])) (fun t k => castTop (ef_rm7 m p1 p2) k) ?_
  refine Goes.st (U' := s₁.setTop (mkF m 1 #[.val (.int p1), .val (.int p2)] [(.int p1)])) (fun t k => XS.iloadN X0.here hx rfl (hb hby d7_0) rfl k) ?_
  refine Goes.st (U' := s₁.setTop (mkF m 2 #[.val (.int p1), .val (.int p2)] [(.int p2), (.int p1)])) (fun t k => XS.iloadN X0.here hx rfl (hb hby d7_1) rfl k) ?_
  rcases Decidable.em (p2 < p1) with hc2 | hc2
  · refine Goes.st (U' := s₁.setTop (mkF m 9 #[.val (.int p1), .val (.int p2)] [])) (fun t k => XS.icmpYes X0.here hx rfl (pc0 := 2) (pc' := 9) rfl (hb hby d7_2) rfl (tlt hc2).2.2.1 (by decide) (by decide) k) ?_
    refine Goes.st (U' := s₁.setTop (mkF m 10 #[.val (.int p1), .val (.int p2)] [(.int p2)])) (fun t k => XS.iloadN X0.here hx rfl (hb hby d7_9) rfl k) ?_
    refine Goes.retI X0 hx (BodyLoose.notSynchronized Bd) Bd.returns (hb hby d7_10) (by decide) (by decide) ?_
    show Q7 Z p1 p2 h0 n0 _ s₁.heap _
    rw [e0]
    exact ⟨(congrArg some (congrArg _ (by unfold fn7; rw [if_pos hc2]))), N0, rfl⟩
  · refine Goes.st (U' := s₁.setTop (mkF m 5 #[.val (.int p1), .val (.int p2)] [])) (fun t k => XS.icmpNo X0.here hx rfl (hb hby d7_2) rfl (flt hc2).2.2.1 k) ?_
    refine Goes.st (U' := s₁.setTop (mkF m 6 #[.val (.int p1), .val (.int p2)] [(.int p1)])) (fun t k => XS.iloadN X0.here hx rfl (hb hby d7_5) rfl k) ?_
    refine Goes.st (U' := s₁.setTop (mkF m 10 #[.val (.int p1), .val (.int p2)] [(.int p1)])) (fun t k => XS.goto X0.here hx rfl (pc0 := 6) (pc' := 10) rfl (hb hby d7_6) (by decide) (by decide) k) ?_
    refine Goes.retI X0 hx (BodyLoose.notSynchronized Bd) Bd.returns (hb hby d7_10) (by decide) (by decide) ?_
    show Q7 Z p1 p2 h0 n0 _ s₁.heap _
    rw [e0]
    exact ⟨(congrArg some (congrArg _ (by unfold fn7; rw [if_neg hc2]))), N0, rfl⟩
theorem own_copy (vs vd : List Value) (dv : Value) (n : Nat) (h1 : vs.length ≤ n) (h2 : vd.length = n) : ∀ i, vs.getD i dv = (vd.take (0 : Int32).toNatClampNeg ++ (List.range n).map (fun i => vs.getD ((0 : Int32).toNatClampNeg + i) dv) ++ vd.drop ((0 : Int32).toNatClampNeg + n)).getD i dv := by
  intro i
  have e : (0 : Int32).toNatClampNeg = 0 := rfl
  rw [e, Nat.zero_add, List.take_zero, List.nil_append, ← h2, List.drop_length, List.append_nil]
  simp only [List.getD_eq_getElem?_getD, Nat.zero_add]
  by_cases h : i < vd.length
  · simp [h]
  · rw [List.getElem?_eq_none (by omega), List.getElem?_eq_none (by simp; omega)]
theorem own_min (x y : Int32) (hx : ¬ x < 0) (hy : ¬ y < 0) : ¬ fn7 x y < 0 ∧ (fn7 x y).toNatClampNeg ≤ x.toNatClampNeg ∧ (fn7 x y).toNatClampNeg ≤ y.toNatClampNeg ∧ (fn7 x y = x ∨ fn7 x y = y) := by
  unfold fn7
  by_cases h : y < x
  · rw [if_pos h]
    refine ⟨hy, ?_, Nat.le_refl _, Or.inr rfl⟩
    rw [Int32.lt_iff_toInt_lt] at h
    simp only [Int32.toNatClampNeg]
    omega
  · rw [if_neg h]
    refine ⟨hx, Nat.le_refl _, ?_, Or.inl rfl⟩
    rw [Int32.lt_iff_toInt_lt] at h
    simp only [Int32.toNatClampNeg]
    omega

theorem own_nc (n : Nat) (h : n ≤ 3) : ¬ ((fn5 (fn4 (4 : Int64) ((2 : Int64) * (n.toInt32.toInt64))) (2147483639 : Int64)).toInt32) = n.toInt32 ∧ ¬ ((fn5 (fn4 (4 : Int64) ((2 : Int64) * (n.toInt32.toInt64))) (2147483639 : Int64)).toInt32) < 0 ∧ (((fn5 (fn4 (4 : Int64) ((2 : Int64) * (n.toInt32.toInt64))) (2147483639 : Int64)).toInt32)).toNatClampNeg ≤ 8 ∧ n.toInt32.toNatClampNeg ≤ (((fn5 (fn4 (4 : Int64) ((2 : Int64) * (n.toInt32.toInt64))) (2147483639 : Int64)).toInt32)).toNatClampNeg ∧ n + 1 ≤ (((fn5 (fn4 (4 : Int64) ((2 : Int64) * (n.toInt32.toInt64))) (2147483639 : Int64)).toInt32)).toNatClampNeg := by
  rcases own_small n h with rfl | rfl | rfl | rfl <;> decide +kernel

theorem d6_0 : decode jdk_65_method_123_code 0 = .ok (.iload_n 1, 1) := by decide +kernel
theorem d6_1 : decode jdk_65_method_123_code 1 = .ok (.aload_n 0, 1) := by decide +kernel
theorem d6_2 : decode jdk_65_method_123_code 2 = .ok (.arraylength, 1) := by decide +kernel
theorem d6_3 : decode jdk_65_method_123_code 3 = .ok (.if_icmp .ne 11, 3) := by decide +kernel
theorem d6_6 : decode jdk_65_method_123_code 6 = .ok (.aload_n 0, 1) := by decide +kernel
theorem d6_7 : decode jdk_65_method_123_code 7 = .ok (.invokevirtual 316, 3) := by decide +kernel
theorem d6_10 : decode jdk_65_method_123_code 10 = .ok (.checkcast 317, 3) := by decide +kernel
theorem d6_13 : decode jdk_65_method_123_code 13 = .ok (.areturn, 1) := by decide +kernel
theorem d6_14 : decode jdk_65_method_123_code 14 = .ok (.iload_n 1, 1) := by decide +kernel
theorem d6_15 : decode jdk_65_method_123_code 15 = .ok (.newarray .int, 2) := by decide +kernel
theorem d6_17 : decode jdk_65_method_123_code 17 = .ok (.astore_n 2, 1) := by decide +kernel
theorem d6_18 : decode jdk_65_method_123_code 18 = .ok (.aload_n 0, 1) := by decide +kernel
theorem d6_19 : decode jdk_65_method_123_code 19 = .ok (.iconst 0, 1) := by decide +kernel
theorem d6_20 : decode jdk_65_method_123_code 20 = .ok (.aload_n 2, 1) := by decide +kernel
theorem d6_21 : decode jdk_65_method_123_code 21 = .ok (.iconst 0, 1) := by decide +kernel
theorem d6_22 : decode jdk_65_method_123_code 22 = .ok (.aload_n 0, 1) := by decide +kernel
theorem d6_23 : decode jdk_65_method_123_code 23 = .ok (.arraylength, 1) := by decide +kernel
theorem d6_24 : decode jdk_65_method_123_code 24 = .ok (.iload_n 1, 1) := by decide +kernel
theorem d6_25 : decode jdk_65_method_123_code 25 = .ok (.invokestatic 304, 3) := by decide +kernel
theorem d6_28 : decode jdk_65_method_123_code 28 = .ok (.invokestatic 150, 3) := by decide +kernel
theorem d6_31 : decode jdk_65_method_123_code 31 = .ok (.aload_n 2, 1) := by decide +kernel
theorem d6_32 : decode jdk_65_method_123_code 32 = .ok (.areturn, 1) := by decide +kernel
theorem pd_0 : parseMethodDescriptor "(II)I" = some ⟨[.int, .int], some .int⟩ := by decide +kernel
theorem pn_1 : plainName "java/util/Arrays" = true := by first | (simp [plainName, overriddenIn]; done) | decide +kernel
theorem ef_rm6 (m : MethodId) (a1 : Addr) (p2 : Int32) : entryFrame m #[(.ref a1), (.int p2)] 3 = mkF m 0 #[.val (.ref a1), .val (.int p2), .unset] [] := by first | (simp [entryFrame, mkF, argsToLocals, Value.category]; done) | rfl
def Q6 (Z : State) (a1 : Addr) (p2 : Int32) (k : ClassId) (z : Int32) (vs : List Value) (h0 : Heap) (n0 : Nat) (v : Option Value) (h : Heap) (L : List Loc) : Prop := ∃ b k', v = some (.ref b) ∧ Fr n0 L ∧ Keep h0 h [] ∧ Arv Z h b k' .int p2 vs (.int (0 : Int32)) ∧ Exa Z h b "[I" ∧ n0 ≤ b ∧ h0.size ≤ b
set_option maxRecDepth 65536 in
set_option maxHeartbeats 40000000 in
theorem rm6 (l : Launch) (Z : State) (a0 : Array Value) (hw : ∀ d ∈ tables_1, d.before a0 Z = true) (ws : List Jvm.Cond) (a1 : Addr) (p2 : Int32) (k : ClassId) (z : Int32) (vs : List Value) (h0 : Heap) (n0 : Nat) (Z0 : n0 ≤ h0.size) (V_a1 : Arv Z h0 a1 k .int z vs (.int (0 : Int32))) (hp : ¬ p2 < 0) (hcap : p2.toNatClampNeg ≤ 8) (hvs : vs.length ≤ z.toNatClampNeg) (hz0 : ¬ z < 0) (hvp : vs.length ≤ p2.toNatClampNeg) (E_a1 : Exa Z h0 a1 "[I") :
    MetFree l (⟨"java/util/Arrays", "copyOf", "([II)[I"⟩ : MethodName) (head1 (Jvm.Cond.code (⟨"java/util/Arrays", "copyOf", "([II)[I"⟩ : MethodName) jdk_65_method_123_code 3 (some (.array .int)) :: ws) ({ frames := 1, cells := 1, slots := 8, locals := 18 } : Room)) (fun a U => a = #[(.ref a1), (.int p2)] ∧ Z.Warmed39 U.vm ∧ U.heap = h0) (fun _ _ _ _ _ => True) (fun _ U o U' => ∃ v L, o = .returned v ∧ Q6 Z a1 p2 k z vs h0 n0 v U'.heap L ∧ FrameEnd U o U' L ({ frames := 1, cells := 1, slots := 8, locals := 18 } : Room).cells ({ frames := 1, cells := 1, slots := 8, locals := 18 } : Room).slots) := by
  refine MetFree.of_bodySF (plainFor_of_name pn_1) hisR ?_
  intro p e s m args below meth c s₁ Bd hml0 hP hK
  obtain ⟨rfl, hZ, hh⟩ := hP
  have hx := Bd.exec
  have hby := Bd.bytes
  have hml : c.maxLocals = 3 := hml0
  have hown : s.vm.findClass "java/util/Arrays" = some m.cls := findClass_of_methodNamed Bd.named
  have hnm := (name_of_methodNamed Bd.named Bd.method).1
  have X0 : Stand p l e ({ frames := 1, cells := 1, slots := 8, locals := 18 } : Room) s m #[(.ref a1), (.int p2)] below meth c s₁ [] 0 0 := Stand.of_body Bd
  have e0 : s₁.heap = h0 := by rw [← hh, Bd.state]; rfl
  have N0 := Fr.nil n0
  show Goes p e s below (fun v h L => Q6 Z a1 p2 k z vs h0 n0 v h L) ({ frames := 1, cells := 1, slots := 8, locals := 18 } : Room).cells ({ frames := 1, cells := 1, slots := 8, locals := 18 } : Room).slots (s₁.setTop (entryFrame m #[(.ref a1), (.int p2)] 3))
  refine Goes.st (U' := s₁.setTop (mkF m 0 #[.val (.ref a1), .val (.int p2), .unset] [])) (fun t k => castTop (ef_rm6 m a1 p2) k) ?_
  refine Goes.st (U' := s₁.setTop (mkF m 1 #[.val (.ref a1), .val (.int p2), .unset] [(.int p2)])) (fun t k => XS.iloadN X0.here hx rfl (hb hby d6_0) rfl k) ?_
  refine Goes.st (U' := s₁.setTop (mkF m 2 #[.val (.ref a1), .val (.int p2), .unset] [(.ref a1), (.int p2)])) (fun t k => XS.aloadN X0.here hx rfl (hb hby d6_1) rfl rfl k) ?_
  have Vx1 := V_a1
  obtain ⟨cl1, Ar1, -, S1, Nn1, -, -⟩ := Vx1
  refine Goes.st (U' := s₁.setTop (mkF m 3 #[.val (.ref a1), .val (.int p2), .unset] [(.int z), (.int p2)])) (fun t k => (X0.arraylength hx (by rw [e0]; exact Ar1.1) (State.isArrayOf_alike hZ.alike Ar1.2.1) (g := (mkF m 2 #[.val (.ref a1), .val (.int p2), .unset] [(.ref a1), (.int p2)])) rfl rfl (hb hby d6_2) t (by rw [len_of S1 Nn1]; exact k))) ?_
  rcases Decidable.em (p2 = z) with hc3 | hc3
  · refine Goes.st (U' := s₁.setTop (mkF m 6 #[.val (.ref a1), .val (.int p2), .unset] [])) (fun t k => XS.icmpNo X0.here hx rfl (hb hby d6_3) rfl (teq hc3).2 k) ?_
    refine Goes.st (U' := s₁.setTop (mkF m 7 #[.val (.ref a1), .val (.int p2), .unset] [(.ref a1)])) (fun t k => XS.aloadN X0.here hx rfl (hb hby d6_6) rfl rfl k) ?_
    obtain ⟨T2, h2, X2, e2, E2, A2, Ea2, st2⟩ := cloneH X0 hx hZ hown (hw _ (List.mem_of_getElem? (i := 57) rfl)) (hw _ (List.mem_of_getElem? (i := 58) rfl)) (hw _ (List.mem_of_getElem? (i := 62) rfl)) (hw _ (List.mem_of_getElem? (i := 60) rfl)) (hw _ (List.mem_of_getElem? (i := 61) rfl)) (hw _ (List.mem_of_getElem? (i := 63) rfl)) e0 (Arv.arh V_a1) E_a1 (g := (mkF m 7 #[.val (.ref a1), .val (.int p2), .unset] [(.ref a1)])) rfl (by rw [hml]; rfl) rfl (hb hby d6_7) (by decide) (W := 0) (cap := 8) (by show 2 * 0 + _ ≤ _; exact Nat.le_of_eq rfl) (by decide) (hc3 ▸ hcap) (by decide) (by decide)
    obtain ⟨b2, g2⟩ : ∃ z, z = h0.size := ⟨_, rfl⟩
    rw [← g2] at A2 Ea2 st2
    have ne_a1_b2 : a1 ≠ b2 := Nat.ne_of_lt (Nat.lt_of_lt_of_le V_a1.lt (Nat.le_of_eq g2.symm))
    have g_b2 : n0 ≤ b2 := Nat.le_trans Z0 (Nat.le_of_eq g2.symm)
    have sz_b2 : h0.size ≤ b2 := Nat.le_trans (Keep.refl h0 []).1 (Nat.le_of_eq g2.symm)
    have K_3 : Keep h0 h2 [] := (Keep.refl h0 []).ext E2
    have V_b2 : Arv Z h2 b2 k .int z vs (.int (0 : Int32)) := A2
    refine Goes.st (U' := T2.setTop (mkF m 10 #[.val (.ref a1), .val (.int p2), .unset] [(.ref b2)])) (fun t k => st2 t k) ?_
    obtain ⟨T4, X4, e4, st4⟩ := castY X2 hx hZ hown (hw _ (List.mem_of_getElem? (i := 64) rfl)) e2 (Ins.self Ea2) (g := (mkF m 10 #[.val (.ref a1), .val (.int p2), .unset] [(.ref b2)])) rfl rfl (hb hby d6_10)
    refine Goes.st (U' := T4.setTop (mkF m 13 #[.val (.ref a1), .val (.int p2), .unset] [(.ref b2)])) (fun t k => st4 t k) ?_
    refine Goes.retA X4 hx (BodyLoose.notSynchronized Bd) Bd.returns (hb hby d6_13) rfl rfl rfl (by decide) (by decide) ?_
    show Q6 Z a1 p2 k z vs h0 n0 _ T4.heap _
    rw [e4]
    exact ⟨b2, k, rfl, N0, K_3, (by rw [hc3]; exact V_b2), Ea2, g_b2, sz_b2⟩
  · refine Goes.st (U' := s₁.setTop (mkF m 14 #[.val (.ref a1), .val (.int p2), .unset] [])) (fun t k => XS.icmpYes X0.here hx rfl (pc0 := 3) (pc' := 14) rfl (hb hby d6_3) rfl (feq hc3).2 (by decide) (by decide) k) ?_
    refine Goes.st (U' := s₁.setTop (mkF m 15 #[.val (.ref a1), .val (.int p2), .unset] [(.int p2)])) (fun t k => XS.iloadN X0.here hx rfl (hb hby d6_14) rfl k) ?_
    obtain ⟨T5, h5, k5, X5, e5, E5, A5, Ea5, st5⟩ := newPE X0 hx hZ (hw _ (List.mem_of_getElem? (i := 9) rfl)) e0 (g := (mkF m 15 #[.val (.ref a1), .val (.int p2), .unset] [(.int p2)])) rfl (hb hby d6_15) rfl hp (cap := 8) hcap (by decide) (by decide) (by decide) (ad := "[I") rfl
    obtain ⟨b5, g5⟩ : ∃ z, z = h0.size := ⟨_, rfl⟩
    rw [← g5] at A5 Ea5 st5
    have ne_a1_b5 : a1 ≠ b5 := Nat.ne_of_lt (Nat.lt_of_lt_of_le V_a1.lt (Nat.le_of_eq g5.symm))
    have g_b5 : n0 ≤ b5 := Nat.le_trans Z0 (Nat.le_of_eq g5.symm)
    have sz_b5 : h0.size ≤ b5 := Nat.le_trans (Keep.refl h0 []).1 (Nat.le_of_eq g5.symm)
    have K_6 : Keep h0 h5 [] := (Keep.refl h0 []).ext E5
    have V_b5 : Arv Z h5 b5 k5 .int p2 [] (.int (0 : Int32)) := Arv.new A5 hp
    refine Goes.st (U' := T5.setTop (mkF m 17 #[.val (.ref a1), .val (.int p2), .unset] [(.ref b5)])) (fun t k => st5 t k) ?_
    refine Goes.st (U' := T5.setTop (mkF m 18 #[.val (.ref a1), .val (.int p2), .val (.ref b5)] [])) (fun t k => XS.astoreN X5.here hx rfl (hb hby d6_17) rfl rfl (l' := #[.val (.ref a1), .val (.int p2), .val (.ref b5)]) rfl k) ?_
    refine Goes.st (U' := T5.setTop (mkF m 19 #[.val (.ref a1), .val (.int p2), .val (.ref b5)] [(.ref a1)])) (fun t k => XS.aloadN X5.here hx rfl (hb hby d6_18) rfl rfl k) ?_
    refine Goes.st (U' := T5.setTop (mkF m 20 #[.val (.ref a1), .val (.int p2), .val (.ref b5)] [(.int (0 : Int32)), (.ref a1)])) (fun t k => XS.iconst X5.here hx rfl (hb hby d6_19) k) ?_
    refine Goes.st (U' := T5.setTop (mkF m 21 #[.val (.ref a1), .val (.int p2), .val (.ref b5)] [(.ref b5), (.int (0 : Int32)), (.ref a1)])) (fun t k => XS.aloadN X5.here hx rfl (hb hby d6_20) rfl rfl k) ?_
    refine Goes.st (U' := T5.setTop (mkF m 22 #[.val (.ref a1), .val (.int p2), .val (.ref b5)] [(.int (0 : Int32)), (.ref b5), (.int (0 : Int32)), (.ref a1)])) (fun t k => XS.iconst X5.here hx rfl (hb hby d6_21) k) ?_
    refine Goes.st (U' := T5.setTop (mkF m 23 #[.val (.ref a1), .val (.int p2), .val (.ref b5)] [(.ref a1), (.int (0 : Int32)), (.ref b5), (.int (0 : Int32)), (.ref a1)])) (fun t k => XS.aloadN X5.here hx rfl (hb hby d6_22) rfl rfl k) ?_
    have Vx7 := (V_a1.ext E5)
    obtain ⟨cl7, Ar7, -, S7, Nn7, -, -⟩ := Vx7
    refine Goes.st (U' := T5.setTop (mkF m 24 #[.val (.ref a1), .val (.int p2), .val (.ref b5)] [(.int z), (.int (0 : Int32)), (.ref b5), (.int (0 : Int32)), (.ref a1)])) (fun t k => (X5.arraylength hx (by rw [e5]; exact Ar7.1) (State.isArrayOf_alike hZ.alike Ar7.2.1) (g := (mkF m 23 #[.val (.ref a1), .val (.int p2), .val (.ref b5)] [(.ref a1), (.int (0 : Int32)), (.ref b5), (.int (0 : Int32)), (.ref a1)])) rfl rfl (hb hby d6_23) t (by rw [len_of S7 Nn7]; exact k))) ?_
    refine Goes.st (U' := T5.setTop (mkF m 25 #[.val (.ref a1), .val (.int p2), .val (.ref b5)] [(.int p2), (.int z), (.int (0 : Int32)), (.ref b5), (.int (0 : Int32)), (.ref a1)])) (fun t k => XS.iloadN X5.here hx rfl (hb hby d6_24) rfl k) ?_
    obtain ⟨_, _, ⟨T8, L8, k8, n8⟩, -, X8, ⟨Lc8, hQ8, l8, y8, z8⟩, st8⟩ := Jvm.LawKit.callS X5 hx (y := (⟨"java/lang/Math", "min", "(II)I"⟩ : MethodName)) hown (mvT hZ (hw _ (List.mem_of_getElem? (i := 33) rfl))) (mvT hZ (hw _ (List.mem_of_getElem? (i := 34) rfl))) (mvT hZ (hw _ (List.mem_of_getElem? (i := 23) rfl))) (mvT hZ (hw _ (List.mem_of_getElem? (i := 35) rfl))) (by decide) (backOf (W := 4) (rm7 l Z a0 hw [] z p2 h5 n0 (Nat.le_trans Z0 E5.1)) hZ (hw _ (List.mem_of_getElem? (i := 35) rfl)) (hw _ (List.mem_of_getElem? (i := 23) rfl)) (by decide) (by decide)) (g := (mkF m 25 #[.val (.ref a1), .val (.int p2), .val (.ref b5)] [(.int p2), (.int z), (.int (0 : Int32)), (.ref b5), (.int (0 : Int32)), (.ref a1)])) rfl (by rw [hml]; rfl) (argsL := [(.int z), (.int p2)]) (rest := [(.int (0 : Int32)), (.ref b5), (.int (0 : Int32)), (.ref a1)]) (lenOf pd_0 rfl) rfl (by show 2 * 0 + _ ≤ _; exact Nat.le_of_eq rfl) (hb hby d6_25) (fun _ _ => ⟨rfl, e5, (by decide : 1 + 0 ≤ _), (by decide : 8 + 0 ≤ _)⟩)
    dsimp only [Pt.U, Pt.locs, Pt.cells, Pt.slots] at X8 l8 y8 z8 st8 hQ8
    subst l8 y8 z8
    obtain ⟨rfl, N8q, e8⟩ := hQ8
    have N8 := Fr.app N0 N8q
    refine Goes.st (U' := T8.setTop (mkF m 28 #[.val (.ref a1), .val (.int p2), .val (.ref b5)] [(.int (fn7 z p2)), (.int (0 : Int32)), (.ref b5), (.int (0 : Int32)), (.ref a1)])) st8 ?_
    obtain ⟨m0, m1, m2, m3⟩ := own_min z p2 hz0 hp
    have Vp : Arv Z h5 b5 k5 .int p2 ([] ++ List.replicate (fn7 z p2).toNatClampNeg (.int (0 : Int32))) (.int (0 : Int32)) := V_b5.pad (pad_rep [] _ _)
    obtain ⟨T9, h9, L9, X9, e9, N9, K9, V9x, st9⟩ := cpA X8 hx hZ hown (hw _ (List.mem_of_getElem? (i := 36) rfl)) (hw _ (List.mem_of_getElem? (i := 39) rfl)) (hw _ (List.mem_of_getElem? (i := 37) rfl)) (hw _ (List.mem_of_getElem? (i := 38) rfl)) e8 (sp := (0 : Int32)) (dp := (0 : Int32)) (nn := (fn7 z p2)) (V_a1.ext E5) Vp (Or.inl ⟨rfl, rfl⟩) (by decide) (by decide) m0 (Nat.le_trans (Nat.le_of_eq (Nat.zero_add _)) m1) (Nat.le_trans (Nat.le_of_eq (Nat.zero_add _)) m2) rfl (by rw [List.nil_append, List.length_replicate]; exact Nat.le_of_eq (Nat.zero_add _)) N8 g_b5 (g := (mkF m 28 #[.val (.ref a1), .val (.int p2), .val (.ref b5)] [(.int (fn7 z p2)), (.int (0 : Int32)), (.ref b5), (.int (0 : Int32)), (.ref a1)])) rfl (by rw [hml]; rfl) rfl (hb hby d6_28) (by decide) (W := 0) (by show 2 * 0 + _ ≤ _; exact Nat.le_of_eq rfl) (by decide)
    have K_10 : Keep h0 h9 [] := K_6.trans K9 (allS (Or.inr sz_b5) all0)
    have V9 : Arv Z h9 b5 k5 .int p2 vs (.int (0 : Int32)) := V9x.pad (own_copy vs _ _ _ (by rcases m3 with q | q <;> rw [q] <;> assumption) (by rw [List.nil_append, List.length_replicate]))
    refine Goes.st (U' := T9.setTop (mkF m 31 #[.val (.ref a1), .val (.int p2), .val (.ref b5)] [])) (fun t k => st9 t k) ?_
    refine Goes.st (U' := T9.setTop (mkF m 32 #[.val (.ref a1), .val (.int p2), .val (.ref b5)] [(.ref b5)])) (fun t k => XS.aloadN X9.here hx rfl (hb hby d6_31) rfl rfl k) ?_
    refine Goes.retA X9 hx (BodyLoose.notSynchronized Bd) Bd.returns (hb hby d6_32) rfl rfl rfl (by decide) (by decide) ?_
    show Q6 Z a1 p2 k z vs h0 n0 _ T9.heap _
    rw [e9]
    exact ⟨b5, k5, rfl, N9, K_10, V9, (Ea5.keep K9), g_b5, sz_b5⟩
theorem d3_0 : decode prog_18_method_2_code 0 = .ok (.aload_n 0, 1) := by decide +kernel
theorem d3_1 : decode prog_18_method_2_code 1 = .ok (.getfield 15, 3) := by decide +kernel
theorem d3_4 : decode prog_18_method_2_code 4 = .ok (.aload_n 0, 1) := by decide +kernel
theorem d3_5 : decode prog_18_method_2_code 5 = .ok (.getfield 9, 3) := by decide +kernel
theorem d3_8 : decode prog_18_method_2_code 8 = .ok (.arraylength, 1) := by decide +kernel
theorem d3_9 : decode prog_18_method_2_code 9 = .ok (.if_icmp .ne 38, 3) := by decide +kernel
theorem d3_12 : decode prog_18_method_2_code 12 = .ok (.ldc2_w 19, 3) := by decide +kernel
theorem d3_15 : decode prog_18_method_2_code 15 = .ok (.ldc2_w 21, 3) := by decide +kernel
theorem d3_18 : decode prog_18_method_2_code 18 = .ok (.aload_n 0, 1) := by decide +kernel
theorem d3_19 : decode prog_18_method_2_code 19 = .ok (.getfield 15, 3) := by decide +kernel
theorem d3_22 : decode prog_18_method_2_code 22 = .ok (.i2l, 1) := by decide +kernel
theorem d3_23 : decode prog_18_method_2_code 23 = .ok (.lmul, 1) := by decide +kernel
theorem d3_24 : decode prog_18_method_2_code 24 = .ok (.invokestatic 23, 3) := by decide +kernel
theorem d3_27 : decode prog_18_method_2_code 27 = .ok (.lstore_n 2, 1) := by decide +kernel
theorem d3_28 : decode prog_18_method_2_code 28 = .ok (.aload_n 0, 1) := by decide +kernel
theorem d3_29 : decode prog_18_method_2_code 29 = .ok (.aload_n 0, 1) := by decide +kernel
theorem d3_30 : decode prog_18_method_2_code 30 = .ok (.getfield 9, 3) := by decide +kernel
theorem d3_33 : decode prog_18_method_2_code 33 = .ok (.lload_n 2, 1) := by decide +kernel
theorem d3_34 : decode prog_18_method_2_code 34 = .ok (.ldc2_w 29, 3) := by decide +kernel
theorem d3_37 : decode prog_18_method_2_code 37 = .ok (.invokestatic 31, 3) := by decide +kernel
theorem d3_40 : decode prog_18_method_2_code 40 = .ok (.l2i, 1) := by decide +kernel
theorem d3_41 : decode prog_18_method_2_code 41 = .ok (.invokestatic 34, 3) := by decide +kernel
theorem d3_44 : decode prog_18_method_2_code 44 = .ok (.putfield 9, 3) := by decide +kernel
theorem d3_47 : decode prog_18_method_2_code 47 = .ok (.aload_n 0, 1) := by decide +kernel
theorem d3_48 : decode prog_18_method_2_code 48 = .ok (.getfield 9, 3) := by decide +kernel
theorem d3_51 : decode prog_18_method_2_code 51 = .ok (.aload_n 0, 1) := by decide +kernel
theorem d3_52 : decode prog_18_method_2_code 52 = .ok (.getfield 15, 3) := by decide +kernel
theorem d3_55 : decode prog_18_method_2_code 55 = .ok (.iload_n 1, 1) := by decide +kernel
theorem d3_56 : decode prog_18_method_2_code 56 = .ok (.iastore, 1) := by decide +kernel
theorem d3_57 : decode prog_18_method_2_code 57 = .ok (.aload_n 0, 1) := by decide +kernel
theorem d3_58 : decode prog_18_method_2_code 58 = .ok (.dup, 1) := by decide +kernel
theorem d3_59 : decode prog_18_method_2_code 59 = .ok (.getfield 15, 3) := by decide +kernel
theorem d3_62 : decode prog_18_method_2_code 62 = .ok (.iconst 1, 1) := by decide +kernel
theorem d3_63 : decode prog_18_method_2_code 63 = .ok (.iadd, 1) := by decide +kernel
theorem d3_64 : decode prog_18_method_2_code 64 = .ok (.putfield 15, 3) := by decide +kernel
theorem d3_67 : decode prog_18_method_2_code 67 = .ok (.return_, 1) := by decide +kernel
theorem pd_1 : parseMethodDescriptor "(JJ)J" = some ⟨[.long, .long], some .long⟩ := by decide +kernel
theorem pd_2 : parseMethodDescriptor "([II)[I" = some ⟨[(.array .int), .int], some (.array .int)⟩ := by decide +kernel
theorem ef_rm3 (m : MethodId) (a1 : Addr) (p2 : Int32) : entryFrame m #[(.ref a1), (.int p2)] 4 = mkF m 0 #[.val (.ref a1), .val (.int p2), .unset, .unset] [] := by first | (simp [entryFrame, mkF, argsToLocals, Value.category]; done) | rfl
def Q3 (Z : State) (a1 : Addr) (p2 : Int32) (arr : Addr) (k : ClassId) (z : Int32) (xs : List Int32) (h0 : Heap) (n0 : Nat) (v : Option Value) (h : Heap) (L : List Loc) : Prop := v = none ∧ Fr n0 L ∧ Keep h0 h [a1, arr] ∧ ∃ arr' k' z', IL Z h a1 arr' k' z' (xs ++ [p2]) ∧ n0 ≤ arr' ∧ (arr' = arr ∨ h0.size ≤ arr')
set_option maxRecDepth 65536 in
set_option maxHeartbeats 40000000 in
theorem rm3 (l : Launch) (Z : State) (a0 : Array Value) (hw : ∀ d ∈ tables_1, d.before a0 Z = true) (ws : List Jvm.Cond) (a1 : Addr) (p2 : Int32) (arr : Addr) (k : ClassId) (z : Int32) (xs : List Int32) (h0 : Heap) (n0 : Nat) (Z0 : n0 ≤ h0.size) (I : IL Z h0 a1 arr k z xs) (hlen : xs.length ≤ 3) (g_a1 : n0 ≤ a1) (g_arr : n0 ≤ arr) :
    MetFree l (⟨"com/example/cosine/cosine/index/IntList", "add", "(I)V"⟩ : MethodName) (head1 (Jvm.Cond.code (⟨"com/example/cosine/cosine/index/IntList", "add", "(I)V"⟩ : MethodName) prog_18_method_2_code 4 none :: ws) ({ frames := 2, cells := 1, slots := 8, locals := 33 } : Room)) (fun a U => a = #[(.ref a1), (.int p2)] ∧ Z.Warmed39 U.vm ∧ U.heap = h0) (fun _ _ _ _ _ => True) (fun _ U o U' => ∃ v L, o = .returned v ∧ Q3 Z a1 p2 arr k z xs h0 n0 v U'.heap L ∧ FrameEnd U o U' L ({ frames := 2, cells := 1, slots := 8, locals := 33 } : Room).cells ({ frames := 2, cells := 1, slots := 8, locals := 33 } : Room).slots) := by
  refine MetFree.of_bodySF (plainFor_of_name pn_0) hisR ?_
  intro p e s m args below meth c s₁ Bd hml0 hP hK
  obtain ⟨rfl, hZ, hh⟩ := hP
  have hx := Bd.exec
  have hby := Bd.bytes
  have hml : c.maxLocals = 4 := hml0
  have hown : s.vm.findClass "com/example/cosine/cosine/index/IntList" = some m.cls := findClass_of_methodNamed Bd.named
  have hnm := (name_of_methodNamed Bd.named Bd.method).1
  have X0 : Stand p l e ({ frames := 2, cells := 1, slots := 8, locals := 33 } : Room) s m #[(.ref a1), (.int p2)] below meth c s₁ [] 0 0 := Stand.of_body Bd
  have e0 : s₁.heap = h0 := by rw [← hh, Bd.state]; rfl
  have N0 := Fr.nil n0
  show Goes p e s below (fun v h L => Q3 Z a1 p2 arr k z xs h0 n0 v h L) ({ frames := 2, cells := 1, slots := 8, locals := 33 } : Room).cells ({ frames := 2, cells := 1, slots := 8, locals := 33 } : Room).slots (s₁.setTop (entryFrame m #[(.ref a1), (.int p2)] 4))
  refine Goes.st (U' := s₁.setTop (mkF m 0 #[.val (.ref a1), .val (.int p2), .unset, .unset] [])) (fun t k => castTop (ef_rm3 m a1 p2) k) ?_
  obtain ⟨E_a1, F_size_a1, F_values_a1, V_arr, E_arr, hle_a1, hz8_a1, hz0_a1, ne_a1_arr⟩ := I
  refine Goes.st (U' := s₁.setTop (mkF m 1 #[.val (.ref a1), .val (.int p2), .unset, .unset] [(.ref a1)])) (fun t k => XS.aloadN X0.here hx rfl (hb hby d3_0) rfl rfl k) ?_
  obtain ⟨T1, X1, e1, st1⟩ := getF X0 hx hZ hown (host := "") (Or.inl (hw _ (List.mem_of_getElem? (i := 17) rfl))) Via.refl e0 F_size_a1 (g := (mkF m 1 #[.val (.ref a1), .val (.int p2), .unset, .unset] [(.ref a1)])) rfl rfl (hb hby d3_1)
  refine Goes.st (U' := T1.setTop (mkF m 4 #[.val (.ref a1), .val (.int p2), .unset, .unset] [(.int (xs.length.toInt32))])) (fun t k => st1 t k) ?_
  refine Goes.st (U' := T1.setTop (mkF m 5 #[.val (.ref a1), .val (.int p2), .unset, .unset] [(.ref a1), (.int (xs.length.toInt32))])) (fun t k => XS.aloadN X1.here hx rfl (hb hby d3_4) rfl rfl k) ?_
  obtain ⟨T2, X2, e2, st2⟩ := getF X1 hx hZ hown (host := "") (Or.inl (hw _ (List.mem_of_getElem? (i := 10) rfl))) Via.refl e1 F_values_a1 (g := (mkF m 5 #[.val (.ref a1), .val (.int p2), .unset, .unset] [(.ref a1), (.int (xs.length.toInt32))])) rfl rfl (hb hby d3_5)
  refine Goes.st (U' := T2.setTop (mkF m 8 #[.val (.ref a1), .val (.int p2), .unset, .unset] [(.ref arr), (.int (xs.length.toInt32))])) (fun t k => st2 t k) ?_
  have Vx3 := V_arr
  obtain ⟨cl3, Ar3, -, S3, Nn3, -, -⟩ := Vx3
  refine Goes.st (U' := T2.setTop (mkF m 9 #[.val (.ref a1), .val (.int p2), .unset, .unset] [(.int z), (.int (xs.length.toInt32))])) (fun t k => (X2.arraylength hx (by rw [e2]; exact Ar3.1) (State.isArrayOf_alike hZ.alike Ar3.2.1) (g := (mkF m 8 #[.val (.ref a1), .val (.int p2), .unset, .unset] [(.ref arr), (.int (xs.length.toInt32))])) rfl rfl (hb hby d3_8) t (by rw [len_of S3 Nn3]; exact k))) ?_
  rcases Decidable.em ((xs.length.toInt32) = z) with hc9 | hc9
  · refine Goes.st (U' := T2.setTop (mkF m 12 #[.val (.ref a1), .val (.int p2), .unset, .unset] [])) (fun t k => XS.icmpNo X2.here hx rfl (hb hby d3_9) rfl (teq hc9).2 k) ?_
    refine Goes.st (U' := T2.setTop (mkF m 15 #[.val (.ref a1), .val (.int p2), .unset, .unset] [(.long (4 : Int64))])) (fun t k => X2.ldc2Long hx hown (mvT hZ (hw _ (List.mem_of_getElem? (i := 19) rfl))) (g := (mkF m 12 #[.val (.ref a1), .val (.int p2), .unset, .unset] [])) rfl (hb hby d3_12) t k) ?_
    refine Goes.st (U' := T2.setTop (mkF m 18 #[.val (.ref a1), .val (.int p2), .unset, .unset] [(.long (2 : Int64)), (.long (4 : Int64))])) (fun t k => X2.ldc2Long hx hown (mvT hZ (hw _ (List.mem_of_getElem? (i := 20) rfl))) (g := (mkF m 15 #[.val (.ref a1), .val (.int p2), .unset, .unset] [(.long (4 : Int64))])) rfl (hb hby d3_15) t k) ?_
    refine Goes.st (U' := T2.setTop (mkF m 19 #[.val (.ref a1), .val (.int p2), .unset, .unset] [(.ref a1), (.long (2 : Int64)), (.long (4 : Int64))])) (fun t k => XS.aloadN X2.here hx rfl (hb hby d3_18) rfl rfl k) ?_
    obtain ⟨T4, X4, e4, st4⟩ := getF X2 hx hZ hown (host := "") (Or.inl (hw _ (List.mem_of_getElem? (i := 17) rfl))) Via.refl e2 F_size_a1 (g := (mkF m 19 #[.val (.ref a1), .val (.int p2), .unset, .unset] [(.ref a1), (.long (2 : Int64)), (.long (4 : Int64))])) rfl rfl (hb hby d3_19)
    refine Goes.st (U' := T4.setTop (mkF m 22 #[.val (.ref a1), .val (.int p2), .unset, .unset] [(.int (xs.length.toInt32)), (.long (2 : Int64)), (.long (4 : Int64))])) (fun t k => st4 t k) ?_
    refine Goes.st (U' := T4.setTop (mkF m 23 #[.val (.ref a1), .val (.int p2), .unset, .unset] [(.long ((xs.length.toInt32).toInt64)), (.long (2 : Int64)), (.long (4 : Int64))])) (fun t k => XS.i2l X4.here hx rfl (hb hby d3_22) rfl k) ?_
    refine Goes.st (U' := T4.setTop (mkF m 24 #[.val (.ref a1), .val (.int p2), .unset, .unset] [(.long ((2 : Int64) * ((xs.length.toInt32).toInt64))), (.long (4 : Int64))])) (fun t k => XS.lmul X4.here hx rfl (hb hby d3_23) rfl k) ?_
    obtain ⟨_, _, ⟨T5, L5, k5, n5⟩, -, X5, ⟨Lc5, hQ5, l5, y5, z5⟩, st5⟩ := Jvm.LawKit.callS X4 hx (y := (⟨"java/lang/Math", "max", "(JJ)J"⟩ : MethodName)) hown (mvT hZ (hw _ (List.mem_of_getElem? (i := 21) rfl))) (mvT hZ (hw _ (List.mem_of_getElem? (i := 22) rfl))) (mvT hZ (hw _ (List.mem_of_getElem? (i := 23) rfl))) (mvT hZ (hw _ (List.mem_of_getElem? (i := 24) rfl))) (by decide) (backOf (W := 0) (rm4 l Z a0 hw [] (4 : Int64) ((2 : Int64) * ((xs.length.toInt32).toInt64)) h0 n0 Z0) hZ (hw _ (List.mem_of_getElem? (i := 24) rfl)) (hw _ (List.mem_of_getElem? (i := 23) rfl)) (by decide) (by decide)) (g := (mkF m 24 #[.val (.ref a1), .val (.int p2), .unset, .unset] [(.long ((2 : Int64) * ((xs.length.toInt32).toInt64))), (.long (4 : Int64))])) rfl (by rw [hml]; rfl) (argsL := [(.long (4 : Int64)), (.long ((2 : Int64) * ((xs.length.toInt32).toInt64)))]) (rest := []) (lenOf pd_1 rfl) rfl (by show 2 * 0 + _ ≤ _; exact Nat.le_of_eq rfl) (hb hby d3_24) (fun _ _ => ⟨rfl, e4, (by decide : 0 + 0 ≤ _), (by decide : 0 + 0 ≤ _)⟩)
    dsimp only [Pt.U, Pt.locs, Pt.cells, Pt.slots] at X5 l5 y5 z5 st5 hQ5
    subst l5 y5 z5
    obtain ⟨rfl, N5q, e5⟩ := hQ5
    have N5 := Fr.app N0 N5q
    refine Goes.st (U' := T5.setTop (mkF m 27 #[.val (.ref a1), .val (.int p2), .unset, .unset] [(.long (fn4 (4 : Int64) ((2 : Int64) * ((xs.length.toInt32).toInt64))))])) st5 ?_
    refine Goes.st (U' := T5.setTop (mkF m 28 #[.val (.ref a1), .val (.int p2), .val (.long (fn4 (4 : Int64) ((2 : Int64) * ((xs.length.toInt32).toInt64)))), .second] [])) (fun t k => XS.lstoreN X5.here hx rfl (hb hby d3_27) rfl (l' := #[.val (.ref a1), .val (.int p2), .val (.long (fn4 (4 : Int64) ((2 : Int64) * ((xs.length.toInt32).toInt64)))), .second]) rfl k) ?_
    refine Goes.st (U' := T5.setTop (mkF m 29 #[.val (.ref a1), .val (.int p2), .val (.long (fn4 (4 : Int64) ((2 : Int64) * ((xs.length.toInt32).toInt64)))), .second] [(.ref a1)])) (fun t k => XS.aloadN X5.here hx rfl (hb hby d3_28) rfl rfl k) ?_
    refine Goes.st (U' := T5.setTop (mkF m 30 #[.val (.ref a1), .val (.int p2), .val (.long (fn4 (4 : Int64) ((2 : Int64) * ((xs.length.toInt32).toInt64)))), .second] [(.ref a1), (.ref a1)])) (fun t k => XS.aloadN X5.here hx rfl (hb hby d3_29) rfl rfl k) ?_
    obtain ⟨T6, X6, e6, st6⟩ := getF X5 hx hZ hown (host := "") (Or.inl (hw _ (List.mem_of_getElem? (i := 10) rfl))) Via.refl e5 F_values_a1 (g := (mkF m 30 #[.val (.ref a1), .val (.int p2), .val (.long (fn4 (4 : Int64) ((2 : Int64) * ((xs.length.toInt32).toInt64)))), .second] [(.ref a1), (.ref a1)])) rfl rfl (hb hby d3_30)
    refine Goes.st (U' := T6.setTop (mkF m 33 #[.val (.ref a1), .val (.int p2), .val (.long (fn4 (4 : Int64) ((2 : Int64) * ((xs.length.toInt32).toInt64)))), .second] [(.ref arr), (.ref a1)])) (fun t k => st6 t k) ?_
    refine Goes.st (U' := T6.setTop (mkF m 34 #[.val (.ref a1), .val (.int p2), .val (.long (fn4 (4 : Int64) ((2 : Int64) * ((xs.length.toInt32).toInt64)))), .second] [(.long (fn4 (4 : Int64) ((2 : Int64) * ((xs.length.toInt32).toInt64)))), (.ref arr), (.ref a1)])) (fun t k => XS.lloadN X6.here hx rfl (hb hby d3_33) rfl k) ?_
    refine Goes.st (U' := T6.setTop (mkF m 37 #[.val (.ref a1), .val (.int p2), .val (.long (fn4 (4 : Int64) ((2 : Int64) * ((xs.length.toInt32).toInt64)))), .second] [(.long (2147483639 : Int64)), (.long (fn4 (4 : Int64) ((2 : Int64) * ((xs.length.toInt32).toInt64)))), (.ref arr), (.ref a1)])) (fun t k => X6.ldc2Long hx hown (mvT hZ (hw _ (List.mem_of_getElem? (i := 25) rfl))) (g := (mkF m 34 #[.val (.ref a1), .val (.int p2), .val (.long (fn4 (4 : Int64) ((2 : Int64) * ((xs.length.toInt32).toInt64)))), .second] [(.long (fn4 (4 : Int64) ((2 : Int64) * ((xs.length.toInt32).toInt64)))), (.ref arr), (.ref a1)])) rfl (hb hby d3_34) t k) ?_
    obtain ⟨_, _, ⟨T7, L7, k7, n7⟩, -, X7, ⟨Lc7, hQ7, l7, y7, z7⟩, st7⟩ := Jvm.LawKit.callS X6 hx (y := (⟨"java/lang/Math", "min", "(JJ)J"⟩ : MethodName)) hown (mvT hZ (hw _ (List.mem_of_getElem? (i := 26) rfl))) (mvT hZ (hw _ (List.mem_of_getElem? (i := 27) rfl))) (mvT hZ (hw _ (List.mem_of_getElem? (i := 23) rfl))) (mvT hZ (hw _ (List.mem_of_getElem? (i := 28) rfl))) (by decide) (backOf (W := 2) (rm5 l Z a0 hw [] (fn4 (4 : Int64) ((2 : Int64) * ((xs.length.toInt32).toInt64))) (2147483639 : Int64) h0 n0 Z0) hZ (hw _ (List.mem_of_getElem? (i := 28) rfl)) (hw _ (List.mem_of_getElem? (i := 23) rfl)) (by decide) (by decide)) (g := (mkF m 37 #[.val (.ref a1), .val (.int p2), .val (.long (fn4 (4 : Int64) ((2 : Int64) * ((xs.length.toInt32).toInt64)))), .second] [(.long (2147483639 : Int64)), (.long (fn4 (4 : Int64) ((2 : Int64) * ((xs.length.toInt32).toInt64)))), (.ref arr), (.ref a1)])) rfl (by rw [hml]; rfl) (argsL := [(.long (fn4 (4 : Int64) ((2 : Int64) * ((xs.length.toInt32).toInt64)))), (.long (2147483639 : Int64))]) (rest := [(.ref arr), (.ref a1)]) (lenOf pd_1 rfl) rfl (by show 2 * 0 + _ ≤ _; exact Nat.le_of_eq rfl) (hb hby d3_37) (fun _ _ => ⟨rfl, e6, (by decide : 0 + 0 ≤ _), (by decide : 0 + 0 ≤ _)⟩)
    dsimp only [Pt.U, Pt.locs, Pt.cells, Pt.slots] at X7 l7 y7 z7 st7 hQ7
    subst l7 y7 z7
    obtain ⟨rfl, N7q, e7⟩ := hQ7
    have N7 := Fr.app N5 N7q
    refine Goes.st (U' := T7.setTop (mkF m 40 #[.val (.ref a1), .val (.int p2), .val (.long (fn4 (4 : Int64) ((2 : Int64) * ((xs.length.toInt32).toInt64)))), .second] [(.long (fn5 (fn4 (4 : Int64) ((2 : Int64) * ((xs.length.toInt32).toInt64))) (2147483639 : Int64))), (.ref arr), (.ref a1)])) st7 ?_
    refine Goes.st (U' := T7.setTop (mkF m 41 #[.val (.ref a1), .val (.int p2), .val (.long (fn4 (4 : Int64) ((2 : Int64) * ((xs.length.toInt32).toInt64)))), .second] [(.int ((fn5 (fn4 (4 : Int64) ((2 : Int64) * ((xs.length.toInt32).toInt64))) (2147483639 : Int64)).toInt32)), (.ref arr), (.ref a1)])) (fun t k => XS.l2i X7.here hx rfl (hb hby d3_40) rfl k) ?_
    obtain ⟨_, _, ⟨T8, L8, k8, n8⟩, -, X8, ⟨Lc8, hQ8, l8, y8, z8⟩, st8⟩ := Jvm.LawKit.callS X7 hx (y := (⟨"java/util/Arrays", "copyOf", "([II)[I"⟩ : MethodName)) hown (mvT hZ (hw _ (List.mem_of_getElem? (i := 29) rfl))) (mvT hZ (hw _ (List.mem_of_getElem? (i := 30) rfl))) (mvT hZ (hw _ (List.mem_of_getElem? (i := 31) rfl))) (mvT hZ (hw _ (List.mem_of_getElem? (i := 32) rfl))) (by decide) (backOf (W := 1) (rm6 l Z a0 hw [] arr ((fn5 (fn4 (4 : Int64) ((2 : Int64) * ((xs.length.toInt32).toInt64))) (2147483639 : Int64)).toInt32) k z (xs.map .int) h0 n0 Z0 (V_arr) ((own_nc _ hlen).2.1) ((own_nc _ hlen).2.2.1) ((by rw [List.length_map]; exact hle_a1)) (hz0_a1) ((by rw [List.length_map]; exact Nat.le_of_succ_le (own_nc _ hlen).2.2.2.2)) (E_arr)) hZ (hw _ (List.mem_of_getElem? (i := 32) rfl)) (hw _ (List.mem_of_getElem? (i := 31) rfl)) (by decide) (by decide)) (g := (mkF m 41 #[.val (.ref a1), .val (.int p2), .val (.long (fn4 (4 : Int64) ((2 : Int64) * ((xs.length.toInt32).toInt64)))), .second] [(.int ((fn5 (fn4 (4 : Int64) ((2 : Int64) * ((xs.length.toInt32).toInt64))) (2147483639 : Int64)).toInt32)), (.ref arr), (.ref a1)])) rfl (by rw [hml]; rfl) (argsL := [(.ref arr), (.int ((fn5 (fn4 (4 : Int64) ((2 : Int64) * ((xs.length.toInt32).toInt64))) (2147483639 : Int64)).toInt32))]) (rest := [(.ref a1)]) (lenOf pd_2 rfl) rfl (by show 2 * 0 + _ ≤ _; exact Nat.le_of_eq rfl) (hb hby d3_41) (fun _ _ => ⟨rfl, e7, (by decide : 0 + 1 ≤ _), (by decide : 0 + 8 ≤ _)⟩)
    dsimp only [Pt.U, Pt.locs, Pt.cells, Pt.slots] at X8 l8 y8 z8 st8 hQ8
    subst l8 y8 z8
    obtain ⟨nb8, kb8, rfl, N8q, K8, V_nb8, E_nb8, g_nb8, u8⟩ := hQ8
    have N8 := Fr.app N7 N8q
    have ne_a1_nb8 : a1 ≠ nb8 := Nat.ne_of_lt (Nat.lt_of_lt_of_le E_a1.lt u8)
    have ne_arr_nb8 : arr ≠ nb8 := Nat.ne_of_lt (Nat.lt_of_lt_of_le E_arr.lt u8)
    have sz_nb8 : h0.size ≤ nb8 := Nat.le_trans (Keep.refl h0 [a1, arr]).1 u8
    have K_9 : Keep h0 T8.heap [a1, arr] := (Keep.refl h0 [a1, arr]).trans K8 all0
    refine Goes.st (U' := T8.setTop (mkF m 44 #[.val (.ref a1), .val (.int p2), .val (.long (fn4 (4 : Int64) ((2 : Int64) * ((xs.length.toInt32).toInt64)))), .second] [(.ref nb8), (.ref a1)])) st8 ?_
    obtain ⟨T10, h10, X10, e10, W10, st10⟩ := putF X8 hx hZ hown (host := "") (Or.inl (hw _ (List.mem_of_getElem? (i := 10) rfl))) Via.refl rfl (F_values_a1.keep K8 nin0) (E_a1.keep K8) (Or.inl (hw _ (List.mem_of_getElem? (i := 11) rfl))) (hw _ (List.mem_of_getElem? (i := 1) rfl)) (ty := (.array .int)) (by decide) rfl rfl (g := (mkF m 44 #[.val (.ref a1), .val (.int p2), .val (.long (fn4 (4 : Int64) ((2 : Int64) * ((xs.length.toInt32).toInt64)))), .second] [(.ref nb8), (.ref a1)])) rfl rfl (hb hby d3_44)
    have Fw10 := (F_values_a1.keep K8 nin0).same W10
    have N10 := Fr.snoc X10 N8 g_a1
    have K_11 : Keep h0 h10 [a1, arr] := K_9.wr W10 (Or.inl (List.mem_of_getElem? (i := 0) rfl))
    refine Goes.st (U' := T10.setTop (mkF m 47 #[.val (.ref a1), .val (.int p2), .val (.long (fn4 (4 : Int64) ((2 : Int64) * ((xs.length.toInt32).toInt64)))), .second] [])) (fun t k => st10 t k) ?_
    refine Goes.st (U' := T10.setTop (mkF m 48 #[.val (.ref a1), .val (.int p2), .val (.long (fn4 (4 : Int64) ((2 : Int64) * ((xs.length.toInt32).toInt64)))), .second] [(.ref a1)])) (fun t k => XS.aloadN X10.here hx rfl (hb hby d3_47) rfl rfl k) ?_
    obtain ⟨T12, X12, e12, st12⟩ := getF X10 hx hZ hown (host := "") (Or.inl (hw _ (List.mem_of_getElem? (i := 10) rfl))) Via.refl e10 Fw10 (g := (mkF m 48 #[.val (.ref a1), .val (.int p2), .val (.long (fn4 (4 : Int64) ((2 : Int64) * ((xs.length.toInt32).toInt64)))), .second] [(.ref a1)])) rfl rfl (hb hby d3_48)
    refine Goes.st (U' := T12.setTop (mkF m 51 #[.val (.ref a1), .val (.int p2), .val (.long (fn4 (4 : Int64) ((2 : Int64) * ((xs.length.toInt32).toInt64)))), .second] [(.ref nb8)])) (fun t k => st12 t k) ?_
    refine Goes.st (U' := T12.setTop (mkF m 52 #[.val (.ref a1), .val (.int p2), .val (.long (fn4 (4 : Int64) ((2 : Int64) * ((xs.length.toInt32).toInt64)))), .second] [(.ref a1), (.ref nb8)])) (fun t k => XS.aloadN X12.here hx rfl (hb hby d3_51) rfl rfl k) ?_
    obtain ⟨T13, X13, e13, st13⟩ := getF X12 hx hZ hown (host := "") (Or.inl (hw _ (List.mem_of_getElem? (i := 17) rfl))) Via.refl e12 ((F_size_a1.keep K8 nin0).other W10 (Or.inr (slot_ne (Or.inl (hw _ (List.mem_of_getElem? (i := 18) rfl))) (Or.inl (hw _ (List.mem_of_getElem? (i := 11) rfl))) (by decide) (t := .int) (t' := (.array .int)) (by decide) (by decide)))) (g := (mkF m 52 #[.val (.ref a1), .val (.int p2), .val (.long (fn4 (4 : Int64) ((2 : Int64) * ((xs.length.toInt32).toInt64)))), .second] [(.ref a1), (.ref nb8)])) rfl rfl (hb hby d3_52)
    refine Goes.st (U' := T13.setTop (mkF m 55 #[.val (.ref a1), .val (.int p2), .val (.long (fn4 (4 : Int64) ((2 : Int64) * ((xs.length.toInt32).toInt64)))), .second] [(.int (xs.length.toInt32)), (.ref nb8)])) (fun t k => st13 t k) ?_
    refine Goes.st (U' := T13.setTop (mkF m 56 #[.val (.ref a1), .val (.int p2), .val (.long (fn4 (4 : Int64) ((2 : Int64) * ((xs.length.toInt32).toInt64)))), .second] [(.int p2), (.int (xs.length.toInt32)), (.ref nb8)])) (fun t k => XS.iloadN X13.here hx rfl (hb hby d3_55) rfl k) ?_
    have Vx14 := (V_nb8.other W10 (Ne.symm ne_a1_nb8))
    obtain ⟨cl14, Ar14, qa14, S14, Nn14, H14, G14⟩ := Vx14
    have hin14 : ¬ ((xs.length.toInt32) < 0 ∨ cl14.slots.size ≤ ((xs.length.toInt32)).toNatClampNeg) := inb_of S14 (own_lt _ _ _ (own_nc _ hlen).2.2.2.2 (own_nat _ hlen).1 (by rw [(own_nat _ hlen).2.1]; exact Nat.lt_succ_self _))
    obtain ⟨T14, h14, X14, e14, W14, st14⟩ := stI X13 hx hZ e13 Ar14 (j := (xs.length.toInt32)) hin14 (g := (mkF m 56 #[.val (.ref a1), .val (.int p2), .val (.long (fn4 (4 : Int64) ((2 : Int64) * ((xs.length.toInt32).toInt64)))), .second] [(.int p2), (.int (xs.length.toInt32)), (.ref nb8)])) rfl rfl (hb hby d3_56)
    have V14 : Arv Z h14 nb8 kb8 .int ((fn5 (fn4 (4 : Int64) ((2 : Int64) * ((xs.length.toInt32).toInt64))) (2147483639 : Int64)).toInt32) ((xs ++ [p2]).map .int) (.int (0 : Int32)) := (by rw [List.map_append]; exact own_push Ar14 qa14 S14 Nn14 H14 G14 rfl W14 (by rw [List.length_map]; exact (own_nat _ hlen).2.1))
    have N14 := Fr.snoc X14 N10 g_nb8
    have K_15 : Keep h0 h14 [a1, arr] := K_11.wr W14 (Or.inr sz_nb8)
    refine Goes.st (U' := T14.setTop (mkF m 57 #[.val (.ref a1), .val (.int p2), .val (.long (fn4 (4 : Int64) ((2 : Int64) * ((xs.length.toInt32).toInt64)))), .second] [])) (fun t k => st14 t k) ?_
    refine Goes.st (U' := T14.setTop (mkF m 58 #[.val (.ref a1), .val (.int p2), .val (.long (fn4 (4 : Int64) ((2 : Int64) * ((xs.length.toInt32).toInt64)))), .second] [(.ref a1)])) (fun t k => XS.aloadN X14.here hx rfl (hb hby d3_57) rfl rfl k) ?_
    refine Goes.st (U' := T14.setTop (mkF m 59 #[.val (.ref a1), .val (.int p2), .val (.long (fn4 (4 : Int64) ((2 : Int64) * ((xs.length.toInt32).toInt64)))), .second] [(.ref a1), (.ref a1)])) (fun t k => XS.dup X14.here hx rfl (hb hby d3_58) rfl rfl k) ?_
    obtain ⟨T16, X16, e16, st16⟩ := getF X14 hx hZ hown (host := "") (Or.inl (hw _ (List.mem_of_getElem? (i := 17) rfl))) Via.refl e14 (((F_size_a1.keep K8 nin0).other W10 (Or.inr (slot_ne (Or.inl (hw _ (List.mem_of_getElem? (i := 18) rfl))) (Or.inl (hw _ (List.mem_of_getElem? (i := 11) rfl))) (by decide) (t := .int) (t' := (.array .int)) (by decide) (by decide)))).other W14 (Or.inl ne_a1_nb8)) (g := (mkF m 59 #[.val (.ref a1), .val (.int p2), .val (.long (fn4 (4 : Int64) ((2 : Int64) * ((xs.length.toInt32).toInt64)))), .second] [(.ref a1), (.ref a1)])) rfl rfl (hb hby d3_59)
    refine Goes.st (U' := T16.setTop (mkF m 62 #[.val (.ref a1), .val (.int p2), .val (.long (fn4 (4 : Int64) ((2 : Int64) * ((xs.length.toInt32).toInt64)))), .second] [(.int (xs.length.toInt32)), (.ref a1)])) (fun t k => st16 t k) ?_
    refine Goes.st (U' := T16.setTop (mkF m 63 #[.val (.ref a1), .val (.int p2), .val (.long (fn4 (4 : Int64) ((2 : Int64) * ((xs.length.toInt32).toInt64)))), .second] [(.int (1 : Int32)), (.int (xs.length.toInt32)), (.ref a1)])) (fun t k => XS.iconst X16.here hx rfl (hb hby d3_62) k) ?_
    refine Goes.st (U' := T16.setTop (mkF m 64 #[.val (.ref a1), .val (.int p2), .val (.long (fn4 (4 : Int64) ((2 : Int64) * ((xs.length.toInt32).toInt64)))), .second] [(.int ((xs.length.toInt32) + (1 : Int32))), (.ref a1)])) (fun t k => XS.iadd X16.here hx rfl (hb hby d3_63) rfl k) ?_
    obtain ⟨T17, h17, X17, e17, W17, st17⟩ := putF X16 hx hZ hown (host := "") (Or.inl (hw _ (List.mem_of_getElem? (i := 17) rfl))) Via.refl e16 (((F_size_a1.keep K8 nin0).other W10 (Or.inr (slot_ne (Or.inl (hw _ (List.mem_of_getElem? (i := 18) rfl))) (Or.inl (hw _ (List.mem_of_getElem? (i := 11) rfl))) (by decide) (t := .int) (t' := (.array .int)) (by decide) (by decide)))).other W14 (Or.inl ne_a1_nb8)) (((E_a1.keep K8).wr W10).wr W14) (Or.inl (hw _ (List.mem_of_getElem? (i := 18) rfl))) (hw _ (List.mem_of_getElem? (i := 1) rfl)) (ty := .int) (by decide) rfl rfl (g := (mkF m 64 #[.val (.ref a1), .val (.int p2), .val (.long (fn4 (4 : Int64) ((2 : Int64) * ((xs.length.toInt32).toInt64)))), .second] [(.int ((xs.length.toInt32) + (1 : Int32))), (.ref a1)])) rfl rfl (hb hby d3_64)
    have Fw17 := (((F_size_a1.keep K8 nin0).other W10 (Or.inr (slot_ne (Or.inl (hw _ (List.mem_of_getElem? (i := 18) rfl))) (Or.inl (hw _ (List.mem_of_getElem? (i := 11) rfl))) (by decide) (t := .int) (t' := (.array .int)) (by decide) (by decide)))).other W14 (Or.inl ne_a1_nb8)).same W17
    have N17 := Fr.snoc X17 N14 g_a1
    have K_18 : Keep h0 h17 [a1, arr] := K_15.wr W17 (Or.inl (List.mem_of_getElem? (i := 0) rfl))
    refine Goes.st (U' := T17.setTop (mkF m 67 #[.val (.ref a1), .val (.int p2), .val (.long (fn4 (4 : Int64) ((2 : Int64) * ((xs.length.toInt32).toInt64)))), .second] [])) (fun t k => st17 t k) ?_
    refine Goes.retV X17 hx (BodyLoose.notSynchronized Bd) Bd.returns (hb hby d3_67) (by decide) (by decide) ?_
    show Q3 Z a1 p2 arr k z xs h0 n0 _ T17.heap _
    rw [e17]
    have Fs : Fld Z h17 a1 "com/example/cosine/cosine/index/IntList" "size" "I" (.int (xs ++ [p2]).length.toInt32) := by rw [List.length_append]; show Fld Z h17 a1 "com/example/cosine/cosine/index/IntList" "size" "I" (.int (xs.length + 1).toInt32); rw [(own_nat _ hlen).2.2]; exact Fw17
    exact ⟨rfl, N17, K_18, nb8, kb8, ((fn5 (fn4 (4 : Int64) ((2 : Int64) * ((xs.length.toInt32).toInt64))) (2147483639 : Int64)).toInt32), ⟨((((E_a1.keep K8).wr W10).wr W14).wr W17), Fs, ((Fw10.other W14 (Or.inl ne_a1_nb8)).other W17 (Or.inr (slot_ne (Or.inl (hw _ (List.mem_of_getElem? (i := 11) rfl))) (Or.inl (hw _ (List.mem_of_getElem? (i := 18) rfl))) (by decide) (t := (.array .int)) (t' := .int) (by decide) (by decide)))), (V14.other W17 (Ne.symm ne_a1_nb8)), (((E_nb8.wr W10).wr W14).wr W17), (by rw [List.length_append]; exact (own_nc _ hlen).2.2.2.2), (own_nc _ hlen).2.2.1, (own_nc _ hlen).2.1, ne_a1_nb8⟩, g_nb8, Or.inr sz_nb8⟩
  · refine Goes.st (U' := T2.setTop (mkF m 47 #[.val (.ref a1), .val (.int p2), .unset, .unset] [])) (fun t k => XS.icmpYes X2.here hx rfl (pc0 := 9) (pc' := 47) rfl (hb hby d3_9) rfl (feq hc9).2 (by decide) (by decide) k) ?_
    refine Goes.st (U' := T2.setTop (mkF m 48 #[.val (.ref a1), .val (.int p2), .unset, .unset] [(.ref a1)])) (fun t k => XS.aloadN X2.here hx rfl (hb hby d3_47) rfl rfl k) ?_
    obtain ⟨T19, X19, e19, st19⟩ := getF X2 hx hZ hown (host := "") (Or.inl (hw _ (List.mem_of_getElem? (i := 10) rfl))) Via.refl e2 F_values_a1 (g := (mkF m 48 #[.val (.ref a1), .val (.int p2), .unset, .unset] [(.ref a1)])) rfl rfl (hb hby d3_48)
    refine Goes.st (U' := T19.setTop (mkF m 51 #[.val (.ref a1), .val (.int p2), .unset, .unset] [(.ref arr)])) (fun t k => st19 t k) ?_
    refine Goes.st (U' := T19.setTop (mkF m 52 #[.val (.ref a1), .val (.int p2), .unset, .unset] [(.ref a1), (.ref arr)])) (fun t k => XS.aloadN X19.here hx rfl (hb hby d3_51) rfl rfl k) ?_
    obtain ⟨T20, X20, e20, st20⟩ := getF X19 hx hZ hown (host := "") (Or.inl (hw _ (List.mem_of_getElem? (i := 17) rfl))) Via.refl e19 F_size_a1 (g := (mkF m 52 #[.val (.ref a1), .val (.int p2), .unset, .unset] [(.ref a1), (.ref arr)])) rfl rfl (hb hby d3_52)
    refine Goes.st (U' := T20.setTop (mkF m 55 #[.val (.ref a1), .val (.int p2), .unset, .unset] [(.int (xs.length.toInt32)), (.ref arr)])) (fun t k => st20 t k) ?_
    refine Goes.st (U' := T20.setTop (mkF m 56 #[.val (.ref a1), .val (.int p2), .unset, .unset] [(.int p2), (.int (xs.length.toInt32)), (.ref arr)])) (fun t k => XS.iloadN X20.here hx rfl (hb hby d3_55) rfl k) ?_
    have Vx21 := V_arr
    obtain ⟨cl21, Ar21, qa21, S21, Nn21, H21, G21⟩ := Vx21
    have hin21 : ¬ ((xs.length.toInt32) < 0 ∨ cl21.slots.size ≤ ((xs.length.toInt32)).toNatClampNeg) := inb_of S21 (own_lt _ _ _ (own_full _ _ hlen hle_a1 hz0_a1 hc9) (own_nat _ hlen).1 (by rw [(own_nat _ hlen).2.1]; exact Nat.lt_succ_self _))
    obtain ⟨T21, h21, X21, e21, W21, st21⟩ := stI X20 hx hZ e20 Ar21 (j := (xs.length.toInt32)) hin21 (g := (mkF m 56 #[.val (.ref a1), .val (.int p2), .unset, .unset] [(.int p2), (.int (xs.length.toInt32)), (.ref arr)])) rfl rfl (hb hby d3_56)
    have V21 : Arv Z h21 arr k .int z ((xs ++ [p2]).map .int) (.int (0 : Int32)) := (by rw [List.map_append]; exact own_push Ar21 qa21 S21 Nn21 H21 G21 rfl W21 (by rw [List.length_map]; exact (own_nat _ hlen).2.1))
    have N21 := Fr.snoc X21 N0 g_arr
    have K_22 : Keep h0 h21 [a1, arr] := (Keep.refl h0 [a1, arr]).wr W21 (Or.inl (List.mem_of_getElem? (i := 1) rfl))
    refine Goes.st (U' := T21.setTop (mkF m 57 #[.val (.ref a1), .val (.int p2), .unset, .unset] [])) (fun t k => st21 t k) ?_
    refine Goes.st (U' := T21.setTop (mkF m 58 #[.val (.ref a1), .val (.int p2), .unset, .unset] [(.ref a1)])) (fun t k => XS.aloadN X21.here hx rfl (hb hby d3_57) rfl rfl k) ?_
    refine Goes.st (U' := T21.setTop (mkF m 59 #[.val (.ref a1), .val (.int p2), .unset, .unset] [(.ref a1), (.ref a1)])) (fun t k => XS.dup X21.here hx rfl (hb hby d3_58) rfl rfl k) ?_
    obtain ⟨T23, X23, e23, st23⟩ := getF X21 hx hZ hown (host := "") (Or.inl (hw _ (List.mem_of_getElem? (i := 17) rfl))) Via.refl e21 (F_size_a1.other W21 (Or.inl ne_a1_arr)) (g := (mkF m 59 #[.val (.ref a1), .val (.int p2), .unset, .unset] [(.ref a1), (.ref a1)])) rfl rfl (hb hby d3_59)
    refine Goes.st (U' := T23.setTop (mkF m 62 #[.val (.ref a1), .val (.int p2), .unset, .unset] [(.int (xs.length.toInt32)), (.ref a1)])) (fun t k => st23 t k) ?_
    refine Goes.st (U' := T23.setTop (mkF m 63 #[.val (.ref a1), .val (.int p2), .unset, .unset] [(.int (1 : Int32)), (.int (xs.length.toInt32)), (.ref a1)])) (fun t k => XS.iconst X23.here hx rfl (hb hby d3_62) k) ?_
    refine Goes.st (U' := T23.setTop (mkF m 64 #[.val (.ref a1), .val (.int p2), .unset, .unset] [(.int ((xs.length.toInt32) + (1 : Int32))), (.ref a1)])) (fun t k => XS.iadd X23.here hx rfl (hb hby d3_63) rfl k) ?_
    obtain ⟨T24, h24, X24, e24, W24, st24⟩ := putF X23 hx hZ hown (host := "") (Or.inl (hw _ (List.mem_of_getElem? (i := 17) rfl))) Via.refl e23 (F_size_a1.other W21 (Or.inl ne_a1_arr)) (E_a1.wr W21) (Or.inl (hw _ (List.mem_of_getElem? (i := 18) rfl))) (hw _ (List.mem_of_getElem? (i := 1) rfl)) (ty := .int) (by decide) rfl rfl (g := (mkF m 64 #[.val (.ref a1), .val (.int p2), .unset, .unset] [(.int ((xs.length.toInt32) + (1 : Int32))), (.ref a1)])) rfl rfl (hb hby d3_64)
    have Fw24 := (F_size_a1.other W21 (Or.inl ne_a1_arr)).same W24
    have N24 := Fr.snoc X24 N21 g_a1
    have K_25 : Keep h0 h24 [a1, arr] := K_22.wr W24 (Or.inl (List.mem_of_getElem? (i := 0) rfl))
    refine Goes.st (U' := T24.setTop (mkF m 67 #[.val (.ref a1), .val (.int p2), .unset, .unset] [])) (fun t k => st24 t k) ?_
    refine Goes.retV X24 hx (BodyLoose.notSynchronized Bd) Bd.returns (hb hby d3_67) (by decide) (by decide) ?_
    show Q3 Z a1 p2 arr k z xs h0 n0 _ T24.heap _
    rw [e24]
    have Fs : Fld Z h24 a1 "com/example/cosine/cosine/index/IntList" "size" "I" (.int (xs ++ [p2]).length.toInt32) := by rw [List.length_append]; show Fld Z h24 a1 "com/example/cosine/cosine/index/IntList" "size" "I" (.int (xs.length + 1).toInt32); rw [(own_nat _ hlen).2.2]; exact Fw24
    exact ⟨rfl, N24, K_25, arr, k, z, ⟨((E_a1.wr W21).wr W24), Fs, ((F_values_a1.other W21 (Or.inl ne_a1_arr)).other W24 (Or.inr (slot_ne (Or.inl (hw _ (List.mem_of_getElem? (i := 11) rfl))) (Or.inl (hw _ (List.mem_of_getElem? (i := 18) rfl))) (by decide) (t := (.array .int)) (t' := .int) (by decide) (by decide)))), (V21.other W24 (Ne.symm ne_a1_arr)), ((E_arr.wr W21).wr W24), (by rw [List.length_append]; exact own_full _ _ hlen hle_a1 hz0_a1 hc9), hz8_a1, hz0_a1, ne_a1_arr⟩, g_arr, Or.inl rfl⟩
theorem d8_0 : decode prog_18_method_3_code 0 = .ok (.new 10, 3) := by decide +kernel
theorem d8_3 : decode prog_18_method_3_code 3 = .ok (.dup, 1) := by decide +kernel
theorem d8_4 : decode prog_18_method_3_code 4 = .ok (.iconst 0, 1) := by decide +kernel
theorem d8_5 : decode prog_18_method_3_code 5 = .ok (.invokespecial 40, 3) := by decide +kernel
theorem d8_8 : decode prog_18_method_3_code 8 = .ok (.astore_n 1, 1) := by decide +kernel
theorem d8_9 : decode prog_18_method_3_code 9 = .ok (.aload_n 1, 1) := by decide +kernel
theorem d8_10 : decode prog_18_method_3_code 10 = .ok (.aload_n 0, 1) := by decide +kernel
theorem d8_11 : decode prog_18_method_3_code 11 = .ok (.getfield 9, 3) := by decide +kernel
theorem d8_14 : decode prog_18_method_3_code 14 = .ok (.aload_n 0, 1) := by decide +kernel
theorem d8_15 : decode prog_18_method_3_code 15 = .ok (.getfield 15, 3) := by decide +kernel
theorem d8_18 : decode prog_18_method_3_code 18 = .ok (.invokestatic 34, 3) := by decide +kernel
theorem d8_21 : decode prog_18_method_3_code 21 = .ok (.putfield 9, 3) := by decide +kernel
theorem d8_24 : decode prog_18_method_3_code 24 = .ok (.aload_n 1, 1) := by decide +kernel
theorem d8_25 : decode prog_18_method_3_code 25 = .ok (.aload_n 0, 1) := by decide +kernel
theorem d8_26 : decode prog_18_method_3_code 26 = .ok (.getfield 15, 3) := by decide +kernel
theorem d8_29 : decode prog_18_method_3_code 29 = .ok (.putfield 15, 3) := by decide +kernel
theorem d8_32 : decode prog_18_method_3_code 32 = .ok (.aload_n 1, 1) := by decide +kernel
theorem d8_33 : decode prog_18_method_3_code 33 = .ok (.areturn, 1) := by decide +kernel
theorem pd_3 : parseMethodDescriptor "(I)V" = some ⟨[.int], none⟩ := by decide +kernel
theorem ef_rm8 (m : MethodId) (a1 : Addr) : entryFrame m #[(.ref a1)] 2 = mkF m 0 #[.val (.ref a1), .unset] [] := by first | (simp [entryFrame, mkF, argsToLocals, Value.category]; done) | rfl
def Q8 (Z : State) (a1 : Addr) (arr : Addr) (k : ClassId) (z : Int32) (xs : List Int32) (h0 : Heap) (n0 : Nat) (v : Option Value) (h : Heap) (L : List Loc) : Prop := ∃ c car kc, v = some (.ref c) ∧ Fr n0 L ∧ Keep h0 h [] ∧ IL Z h c car kc xs.length.toInt32 xs ∧ n0 ≤ c ∧ n0 ≤ car ∧ h0.size ≤ c ∧ h0.size ≤ car
set_option maxRecDepth 65536 in
set_option maxHeartbeats 40000000 in
theorem rm8 (l : Launch) (Z : State) (a0 : Array Value) (hw : ∀ d ∈ tables_1, d.before a0 Z = true) (ws : List Jvm.Cond) (a1 : Addr) (arr : Addr) (k : ClassId) (z : Int32) (xs : List Int32) (h0 : Heap) (n0 : Nat) (Z0 : n0 ≤ h0.size) (I : IL Z h0 a1 arr k z xs) (hlen : xs.length ≤ 3) :
    MetFree l (⟨"com/example/cosine/cosine/index/IntList", "copy", "()Lcom/example/cosine/cosine/index/IntList;"⟩ : MethodName) (head1 (Jvm.Cond.code (⟨"com/example/cosine/cosine/index/IntList", "copy", "()Lcom/example/cosine/cosine/index/IntList;"⟩ : MethodName) prog_18_method_3_code 2 (some (.object "com/example/cosine/cosine/index/IntList")) :: ws) ({ frames := 2, cells := 3, slots := 18, locals := 33 } : Room)) (fun a U => a = #[(.ref a1)] ∧ Z.Warmed39 U.vm ∧ U.heap = h0) (fun _ _ _ _ _ => True) (fun _ U o U' => ∃ v L, o = .returned v ∧ Q8 Z a1 arr k z xs h0 n0 v U'.heap L ∧ FrameEnd U o U' L ({ frames := 2, cells := 3, slots := 18, locals := 33 } : Room).cells ({ frames := 2, cells := 3, slots := 18, locals := 33 } : Room).slots) := by
  refine MetFree.of_bodySF (plainFor_of_name pn_0) hisR ?_
  intro p e s m args below meth c s₁ Bd hml0 hP hK
  obtain ⟨rfl, hZ, hh⟩ := hP
  have hx := Bd.exec
  have hby := Bd.bytes
  have hml : c.maxLocals = 2 := hml0
  have hown : s.vm.findClass "com/example/cosine/cosine/index/IntList" = some m.cls := findClass_of_methodNamed Bd.named
  have hnm := (name_of_methodNamed Bd.named Bd.method).1
  have X0 : Stand p l e ({ frames := 2, cells := 3, slots := 18, locals := 33 } : Room) s m #[(.ref a1)] below meth c s₁ [] 0 0 := Stand.of_body Bd
  have e0 : s₁.heap = h0 := by rw [← hh, Bd.state]; rfl
  have N0 := Fr.nil n0
  show Goes p e s below (fun v h L => Q8 Z a1 arr k z xs h0 n0 v h L) ({ frames := 2, cells := 3, slots := 18, locals := 33 } : Room).cells ({ frames := 2, cells := 3, slots := 18, locals := 33 } : Room).slots (s₁.setTop (entryFrame m #[(.ref a1)] 2))
  refine Goes.st (U' := s₁.setTop (mkF m 0 #[.val (.ref a1), .unset] [])) (fun t k => castTop (ef_rm8 m a1) k) ?_
  obtain ⟨E_a1, F_size_a1, F_values_a1, V_arr, E_arr, hle_a1, hz8_a1, hz0_a1, ne_a1_arr⟩ := I
  obtain ⟨T1, h1, X1, e1, E1, A1, D1, -, st1⟩ := newO X0 hx hZ hown (hw _ (List.mem_of_getElem? (i := 45) rfl)) (hw _ (List.mem_of_getElem? (i := 1) rfl)) (hw _ (List.mem_of_getElem? (i := 2) rfl)) e0 (g := (mkF m 0 #[.val (.ref a1), .unset] [])) rfl (hb hby d8_0) (by decide) (by decide)
  obtain ⟨b1, g1⟩ : ∃ z, z = h0.size := ⟨_, rfl⟩
  rw [← g1] at A1 D1 st1
  have ne_arr_b1 : arr ≠ b1 := Nat.ne_of_lt (Nat.lt_of_lt_of_le E_arr.lt (Nat.le_of_eq g1.symm))
  have ne_a1_b1 : a1 ≠ b1 := Nat.ne_of_lt (Nat.lt_of_lt_of_le E_a1.lt (Nat.le_of_eq g1.symm))
  have g_b1 : n0 ≤ b1 := Nat.le_trans Z0 (Nat.le_of_eq g1.symm)
  have sz_b1 : h0.size ≤ b1 := Nat.le_trans (Keep.refl h0 []).1 (Nat.le_of_eq g1.symm)
  have K_2 : Keep h0 h1 [] := (Keep.refl h0 []).ext E1
  have F_values_b1 : Fld Z h1 b1 "com/example/cosine/cosine/index/IntList" "values" "[I" .null := D1 (Or.inl (hw _ (List.mem_of_getElem? (i := 11) rfl))) (ty := (.array .int)) (by decide)
  have F_size_b1 : Fld Z h1 b1 "com/example/cosine/cosine/index/IntList" "size" "I" (.int (0 : Int32)) := D1 (Or.inl (hw _ (List.mem_of_getElem? (i := 18) rfl))) (ty := .int) (by decide)
  refine Goes.st (U' := T1.setTop (mkF m 3 #[.val (.ref a1), .unset] [(.ref b1)])) (fun t k => st1 t k) ?_
  refine Goes.st (U' := T1.setTop (mkF m 4 #[.val (.ref a1), .unset] [(.ref b1), (.ref b1)])) (fun t k => XS.dup X1.here hx rfl (hb hby d8_3) rfl rfl k) ?_
  refine Goes.st (U' := T1.setTop (mkF m 5 #[.val (.ref a1), .unset] [(.int (0 : Int32)), (.ref b1), (.ref b1)])) (fun t k => XS.iconst X1.here hx rfl (hb hby d8_4) k) ?_
  obtain ⟨_, _, ⟨T3, L3, k3, n3⟩, -, X3, ⟨Lc3, hQ3, l3, y3, z3⟩, st3⟩ := X1.specialBack hx (y := (⟨"com/example/cosine/cosine/index/IntList", "<init>", "(I)V"⟩ : MethodName)) rfl hown (mvT hZ (hw _ (List.mem_of_getElem? (i := 46) rfl))) (mvT hZ (hw _ (List.mem_of_getElem? (i := 4) rfl))) (mvT hZ (hw _ (List.mem_of_getElem? (i := 5) rfl))) (by decide) (backOf (W := 1) (rm1 l Z a0 hw [] b1 (0 : Int32) h1 n0 (Nat.le_trans Z0 E1.1) (A1) (F_values_b1) (F_size_b1) (g_b1) ((by decide)) ((by decide))) hZ (hw _ (List.mem_of_getElem? (i := 5) rfl)) (hw _ (List.mem_of_getElem? (i := 2) rfl)) (by decide) (by decide)) (g := (mkF m 5 #[.val (.ref a1), .unset] [(.int (0 : Int32)), (.ref b1), (.ref b1)])) rfl (by rw [hml]; rfl) (Steps.refl _) (a := b1) (argsL := [(.int (0 : Int32))]) (rest := [(.ref b1)]) (lenOf pd_3 rfl) rfl (by show 2 * 0 + _ ≤ _; exact Nat.le_of_eq rfl) (hb hby d8_5) (fun _ _ => ⟨rfl, e1, (by decide : 1 + 1 ≤ _), (by decide : 2 + 8 ≤ _)⟩)
  dsimp only [Pt.U, Pt.locs, Pt.cells, Pt.slots] at X3 l3 y3 z3 st3 hQ3
  subst l3 y3 z3
  obtain ⟨rfl, N3q, K3, ar3, ka3, I3, g_ar3, u3⟩ := hQ3
  have N3 := Fr.app N0 N3q
  have ne_a1_ar3 : a1 ≠ ar3 := Nat.ne_of_lt (Nat.lt_of_lt_of_le (E_a1.ext E1).lt u3)
  have ne_arr_ar3 : arr ≠ ar3 := Nat.ne_of_lt (Nat.lt_of_lt_of_le (E_arr.ext E1).lt u3)
  have ne_b1_ar3 : b1 ≠ ar3 := Nat.ne_of_lt (Nat.lt_of_lt_of_le A1.lt u3)
  have sz_ar3 : h0.size ≤ ar3 := Nat.le_trans K_2.1 u3
  have K_4 : Keep h0 T3.heap [] := K_2.trans K3 (allS (Or.inr sz_b1) all0)
  refine Goes.tr (U' := T3.setTop (mkF m 8 #[.val (.ref a1), .unset] [(.ref b1)])) st3 ?_
  obtain ⟨E_b1, F_size_b1, F_values_b1, V_ar3, E_ar3, hle_b1, hz8_b1, hz0_b1, ne_b1_ar3⟩ := I3
  refine Goes.st (U' := T3.setTop (mkF m 9 #[.val (.ref a1), .val (.ref b1)] [])) (fun t k => XS.astoreN X3.here hx rfl (hb hby d8_8) rfl rfl (l' := #[.val (.ref a1), .val (.ref b1)]) rfl k) ?_
  refine Goes.st (U' := T3.setTop (mkF m 10 #[.val (.ref a1), .val (.ref b1)] [(.ref b1)])) (fun t k => XS.aloadN X3.here hx rfl (hb hby d8_9) rfl rfl k) ?_
  refine Goes.st (U' := T3.setTop (mkF m 11 #[.val (.ref a1), .val (.ref b1)] [(.ref a1), (.ref b1)])) (fun t k => XS.aloadN X3.here hx rfl (hb hby d8_10) rfl rfl k) ?_
  obtain ⟨T5, X5, e5, st5⟩ := getF X3 hx hZ hown (host := "") (Or.inl (hw _ (List.mem_of_getElem? (i := 10) rfl))) Via.refl rfl ((F_values_a1.ext E1).keep K3 (ninS ne_a1_b1 nin0)) (g := (mkF m 11 #[.val (.ref a1), .val (.ref b1)] [(.ref a1), (.ref b1)])) rfl rfl (hb hby d8_11)
  refine Goes.st (U' := T5.setTop (mkF m 14 #[.val (.ref a1), .val (.ref b1)] [(.ref arr), (.ref b1)])) (fun t k => st5 t k) ?_
  refine Goes.st (U' := T5.setTop (mkF m 15 #[.val (.ref a1), .val (.ref b1)] [(.ref a1), (.ref arr), (.ref b1)])) (fun t k => XS.aloadN X5.here hx rfl (hb hby d8_14) rfl rfl k) ?_
  obtain ⟨T6, X6, e6, st6⟩ := getF X5 hx hZ hown (host := "") (Or.inl (hw _ (List.mem_of_getElem? (i := 17) rfl))) Via.refl e5 ((F_size_a1.ext E1).keep K3 (ninS ne_a1_b1 nin0)) (g := (mkF m 15 #[.val (.ref a1), .val (.ref b1)] [(.ref a1), (.ref arr), (.ref b1)])) rfl rfl (hb hby d8_15)
  refine Goes.st (U' := T6.setTop (mkF m 18 #[.val (.ref a1), .val (.ref b1)] [(.int (xs.length.toInt32)), (.ref arr), (.ref b1)])) (fun t k => st6 t k) ?_
  obtain ⟨_, _, ⟨T7, L7, k7, n7⟩, -, X7, ⟨Lc7, hQ7, l7, y7, z7⟩, st7⟩ := Jvm.LawKit.callS X6 hx (y := (⟨"java/util/Arrays", "copyOf", "([II)[I"⟩ : MethodName)) hown (mvT hZ (hw _ (List.mem_of_getElem? (i := 29) rfl))) (mvT hZ (hw _ (List.mem_of_getElem? (i := 30) rfl))) (mvT hZ (hw _ (List.mem_of_getElem? (i := 31) rfl))) (mvT hZ (hw _ (List.mem_of_getElem? (i := 32) rfl))) (by decide) (backOf (W := 1) (rm6 l Z a0 hw [] arr (xs.length.toInt32) k z (xs.map .int) T3.heap n0 (Nat.le_trans (Nat.le_trans Z0 E1.1) K3.1) (((V_arr.ext E1).keep K3 (ninS ne_arr_b1 nin0))) ((own_nat _ hlen).1) ((by rw [(own_nat _ hlen).2.1]; omega)) ((by rw [List.length_map]; exact hle_a1)) (hz0_a1) ((by rw [List.length_map, (own_nat _ hlen).2.1]; exact Nat.le_refl _)) (((E_arr.ext E1).keep K3))) hZ (hw _ (List.mem_of_getElem? (i := 32) rfl)) (hw _ (List.mem_of_getElem? (i := 31) rfl)) (by decide) (by decide)) (g := (mkF m 18 #[.val (.ref a1), .val (.ref b1)] [(.int (xs.length.toInt32)), (.ref arr), (.ref b1)])) rfl (by rw [hml]; rfl) (argsL := [(.ref arr), (.int (xs.length.toInt32))]) (rest := [(.ref b1)]) (lenOf pd_2 rfl) rfl (by show 2 * 0 + _ ≤ _; exact Nat.le_of_eq rfl) (hb hby d8_18) (fun _ _ => ⟨rfl, e6, (by decide : 2 + 1 ≤ _), (by decide : 10 + 8 ≤ _)⟩)
  dsimp only [Pt.U, Pt.locs, Pt.cells, Pt.slots] at X7 l7 y7 z7 st7 hQ7
  subst l7 y7 z7
  obtain ⟨nb7, kb7, rfl, N7q, K7, V_nb7, E_nb7, g_nb7, u7⟩ := hQ7
  have N7 := Fr.app N3 N7q
  have ne_a1_nb7 : a1 ≠ nb7 := Nat.ne_of_lt (Nat.lt_of_lt_of_le ((E_a1.ext E1).keep K3).lt u7)
  have ne_ar3_nb7 : ar3 ≠ nb7 := Nat.ne_of_lt (Nat.lt_of_lt_of_le E_ar3.lt u7)
  have ne_arr_nb7 : arr ≠ nb7 := Nat.ne_of_lt (Nat.lt_of_lt_of_le ((E_arr.ext E1).keep K3).lt u7)
  have ne_b1_nb7 : b1 ≠ nb7 := Nat.ne_of_lt (Nat.lt_of_lt_of_le E_b1.lt u7)
  have sz_nb7 : h0.size ≤ nb7 := Nat.le_trans K_4.1 u7
  have K_8 : Keep h0 T7.heap [] := K_4.trans K7 all0
  refine Goes.st (U' := T7.setTop (mkF m 21 #[.val (.ref a1), .val (.ref b1)] [(.ref nb7), (.ref b1)])) st7 ?_
  obtain ⟨T9, h9, X9, e9, W9, st9⟩ := putF X7 hx hZ hown (host := "") (Or.inl (hw _ (List.mem_of_getElem? (i := 10) rfl))) Via.refl rfl (F_values_b1.keep K7 nin0) (E_b1.keep K7) (Or.inl (hw _ (List.mem_of_getElem? (i := 11) rfl))) (hw _ (List.mem_of_getElem? (i := 1) rfl)) (ty := (.array .int)) (by decide) rfl rfl (g := (mkF m 21 #[.val (.ref a1), .val (.ref b1)] [(.ref nb7), (.ref b1)])) rfl rfl (hb hby d8_21)
  have Fw9 := (F_values_b1.keep K7 nin0).same W9
  have N9 := Fr.snoc X9 N7 g_b1
  have K_10 : Keep h0 h9 [] := K_8.wr W9 (Or.inr sz_b1)
  refine Goes.st (U' := T9.setTop (mkF m 24 #[.val (.ref a1), .val (.ref b1)] [])) (fun t k => st9 t k) ?_
  refine Goes.st (U' := T9.setTop (mkF m 25 #[.val (.ref a1), .val (.ref b1)] [(.ref b1)])) (fun t k => XS.aloadN X9.here hx rfl (hb hby d8_24) rfl rfl k) ?_
  refine Goes.st (U' := T9.setTop (mkF m 26 #[.val (.ref a1), .val (.ref b1)] [(.ref a1), (.ref b1)])) (fun t k => XS.aloadN X9.here hx rfl (hb hby d8_25) rfl rfl k) ?_
  obtain ⟨T11, X11, e11, st11⟩ := getF X9 hx hZ hown (host := "") (Or.inl (hw _ (List.mem_of_getElem? (i := 17) rfl))) Via.refl e9 ((((F_size_a1.ext E1).keep K3 (ninS ne_a1_b1 nin0)).keep K7 nin0).other W9 (Or.inl ne_a1_b1)) (g := (mkF m 26 #[.val (.ref a1), .val (.ref b1)] [(.ref a1), (.ref b1)])) rfl rfl (hb hby d8_26)
  refine Goes.st (U' := T11.setTop (mkF m 29 #[.val (.ref a1), .val (.ref b1)] [(.int (xs.length.toInt32)), (.ref b1)])) (fun t k => st11 t k) ?_
  obtain ⟨T12, h12, X12, e12, W12, st12⟩ := putF X11 hx hZ hown (host := "") (Or.inl (hw _ (List.mem_of_getElem? (i := 17) rfl))) Via.refl e11 ((F_size_b1.keep K7 nin0).other W9 (Or.inr (slot_ne (Or.inl (hw _ (List.mem_of_getElem? (i := 18) rfl))) (Or.inl (hw _ (List.mem_of_getElem? (i := 11) rfl))) (by decide) (t := .int) (t' := (.array .int)) (by decide) (by decide)))) ((E_b1.keep K7).wr W9) (Or.inl (hw _ (List.mem_of_getElem? (i := 18) rfl))) (hw _ (List.mem_of_getElem? (i := 1) rfl)) (ty := .int) (by decide) rfl rfl (g := (mkF m 29 #[.val (.ref a1), .val (.ref b1)] [(.int (xs.length.toInt32)), (.ref b1)])) rfl rfl (hb hby d8_29)
  have Fw12 := ((F_size_b1.keep K7 nin0).other W9 (Or.inr (slot_ne (Or.inl (hw _ (List.mem_of_getElem? (i := 18) rfl))) (Or.inl (hw _ (List.mem_of_getElem? (i := 11) rfl))) (by decide) (t := .int) (t' := (.array .int)) (by decide) (by decide)))).same W12
  have N12 := Fr.snoc X12 N9 g_b1
  have K_13 : Keep h0 h12 [] := K_10.wr W12 (Or.inr sz_b1)
  refine Goes.st (U' := T12.setTop (mkF m 32 #[.val (.ref a1), .val (.ref b1)] [])) (fun t k => st12 t k) ?_
  refine Goes.st (U' := T12.setTop (mkF m 33 #[.val (.ref a1), .val (.ref b1)] [(.ref b1)])) (fun t k => XS.aloadN X12.here hx rfl (hb hby d8_32) rfl rfl k) ?_
  refine Goes.retA X12 hx (BodyLoose.notSynchronized Bd) Bd.returns (hb hby d8_33) rfl rfl rfl (by decide) (by decide) ?_
  show Q8 Z a1 arr k z xs h0 n0 _ T12.heap _
  rw [e12]
  exact ⟨b1, nb7, kb7, rfl, N12, K_13, ⟨(((E_b1.keep K7).wr W9).wr W12), Fw12, (Fw9.other W12 (Or.inr (slot_ne (Or.inl (hw _ (List.mem_of_getElem? (i := 11) rfl))) (Or.inl (hw _ (List.mem_of_getElem? (i := 18) rfl))) (by decide) (t := (.array .int)) (t' := .int) (by decide) (by decide)))), ((V_nb7.other W9 (Ne.symm ne_b1_nb7)).other W12 (Ne.symm ne_b1_nb7)), ((E_nb7.wr W9).wr W12), (by rw [(own_nat _ hlen).2.1]; exact Nat.le_refl _), (by rw [(own_nat _ hlen).2.1]; omega), (own_nat _ hlen).1, ne_b1_nb7⟩, g_b1, g_nb7, sz_b1, sz_nb7⟩
theorem d9_0 : decode prog_18_method_5_code 0 = .ok (.aload_n 0, 1) := by decide +kernel
theorem d9_1 : decode prog_18_method_5_code 1 = .ok (.getfield 15, 3) := by decide +kernel
theorem d9_4 : decode prog_18_method_5_code 4 = .ok (.ireturn, 1) := by decide +kernel
theorem ef_rm9 (m : MethodId) (a1 : Addr) : entryFrame m #[(.ref a1)] 1 = mkF m 0 #[.val (.ref a1)] [] := by first | (simp [entryFrame, mkF, argsToLocals, Value.category]; done) | rfl
def Q9 (Z : State) (a1 : Addr) (arr : Addr) (k : ClassId) (z : Int32) (xs : List Int32) (h0 : Heap) (n0 : Nat) (v : Option Value) (h : Heap) (L : List Loc) : Prop := v = some (.int xs.length.toInt32) ∧ Fr n0 L ∧ h = h0
set_option maxRecDepth 65536 in
set_option maxHeartbeats 40000000 in
theorem rm9 (l : Launch) (Z : State) (a0 : Array Value) (hw : ∀ d ∈ tables_1, d.before a0 Z = true) (ws : List Jvm.Cond) (a1 : Addr) (arr : Addr) (k : ClassId) (z : Int32) (xs : List Int32) (h0 : Heap) (n0 : Nat) (Z0 : n0 ≤ h0.size) (I : IL Z h0 a1 arr k z xs) :
    MetFree l (⟨"com/example/cosine/cosine/index/IntList", "size", "()I"⟩ : MethodName) (head1 (Jvm.Cond.code (⟨"com/example/cosine/cosine/index/IntList", "size", "()I"⟩ : MethodName) prog_18_method_5_code 1 (some .int) :: ws) ({ frames := 0, cells := 0, slots := 0, locals := 0 } : Room)) (fun a U => a = #[(.ref a1)] ∧ Z.Warmed39 U.vm ∧ U.heap = h0) (fun _ _ _ _ _ => True) (fun _ U o U' => ∃ v L, o = .returned v ∧ Q9 Z a1 arr k z xs h0 n0 v U'.heap L ∧ FrameEnd U o U' L ({ frames := 0, cells := 0, slots := 0, locals := 0 } : Room).cells ({ frames := 0, cells := 0, slots := 0, locals := 0 } : Room).slots) := by
  refine MetFree.of_bodySF (plainFor_of_name pn_0) hisR ?_
  intro p e s m args below meth c s₁ Bd hml0 hP hK
  obtain ⟨rfl, hZ, hh⟩ := hP
  have hx := Bd.exec
  have hby := Bd.bytes
  have hml : c.maxLocals = 1 := hml0
  have hown : s.vm.findClass "com/example/cosine/cosine/index/IntList" = some m.cls := findClass_of_methodNamed Bd.named
  have hnm := (name_of_methodNamed Bd.named Bd.method).1
  have X0 : Stand p l e ({ frames := 0, cells := 0, slots := 0, locals := 0 } : Room) s m #[(.ref a1)] below meth c s₁ [] 0 0 := Stand.of_body Bd
  have e0 : s₁.heap = h0 := by rw [← hh, Bd.state]; rfl
  have N0 := Fr.nil n0
  show Goes p e s below (fun v h L => Q9 Z a1 arr k z xs h0 n0 v h L) ({ frames := 0, cells := 0, slots := 0, locals := 0 } : Room).cells ({ frames := 0, cells := 0, slots := 0, locals := 0 } : Room).slots (s₁.setTop (entryFrame m #[(.ref a1)] 1))
  refine Goes.st (U' := s₁.setTop (mkF m 0 #[.val (.ref a1)] [])) (fun t k => castTop (ef_rm9 m a1) k) ?_
  obtain ⟨E_a1, F_size_a1, F_values_a1, V_arr, E_arr, hle_a1, hz8_a1, hz0_a1, ne_a1_arr⟩ := I
  refine Goes.st (U' := s₁.setTop (mkF m 1 #[.val (.ref a1)] [(.ref a1)])) (fun t k => XS.aloadN X0.here hx rfl (hb hby d9_0) rfl rfl k) ?_
  obtain ⟨T1, X1, e1, st1⟩ := getF X0 hx hZ hown (host := "") (Or.inl (hw _ (List.mem_of_getElem? (i := 17) rfl))) Via.refl e0 F_size_a1 (g := (mkF m 1 #[.val (.ref a1)] [(.ref a1)])) rfl rfl (hb hby d9_1)
  refine Goes.st (U' := T1.setTop (mkF m 4 #[.val (.ref a1)] [(.int (xs.length.toInt32))])) (fun t k => st1 t k) ?_
  refine Goes.retI X1 hx (BodyLoose.notSynchronized Bd) Bd.returns (hb hby d9_4) (by decide) (by decide) ?_
  show Q9 Z a1 arr k z xs h0 n0 _ T1.heap _
  rw [e1]
  exact ⟨rfl, N0, rfl⟩
theorem d10_0 : decode prog_18_method_4_code 0 = .ok (.aload_n 0, 1) := by decide +kernel
theorem d10_1 : decode prog_18_method_4_code 1 = .ok (.getfield 9, 3) := by decide +kernel
theorem d10_4 : decode prog_18_method_4_code 4 = .ok (.iload_n 1, 1) := by decide +kernel
theorem d10_5 : decode prog_18_method_4_code 5 = .ok (.iaload, 1) := by decide +kernel
theorem d10_6 : decode prog_18_method_4_code 6 = .ok (.ireturn, 1) := by decide +kernel
theorem ef_rm10 (m : MethodId) (a1 : Addr) (p2 : Int32) : entryFrame m #[(.ref a1), (.int p2)] 2 = mkF m 0 #[.val (.ref a1), .val (.int p2)] [] := by first | (simp [entryFrame, mkF, argsToLocals, Value.category]; done) | rfl
def Q10 (Z : State) (a1 : Addr) (p2 : Int32) (arr : Addr) (k : ClassId) (z : Int32) (xs : List Int32) (w : Int32) (h0 : Heap) (n0 : Nat) (v : Option Value) (h : Heap) (L : List Loc) : Prop := v = some (.int w) ∧ Fr n0 L ∧ h = h0
set_option maxRecDepth 65536 in
set_option maxHeartbeats 40000000 in
theorem rm10 (l : Launch) (Z : State) (a0 : Array Value) (hw : ∀ d ∈ tables_1, d.before a0 Z = true) (ws : List Jvm.Cond) (a1 : Addr) (p2 : Int32) (arr : Addr) (k : ClassId) (z : Int32) (xs : List Int32) (w : Int32) (h0 : Heap) (n0 : Nat) (Z0 : n0 ≤ h0.size) (I : IL Z h0 a1 arr k z xs) (hi : ¬ p2 < 0) (hl : p2.toNatClampNeg < xs.length) (hat : (xs.map Value.int).getD p2.toNatClampNeg (.int (0 : Int32)) = .int w) :
    MetFree l (⟨"com/example/cosine/cosine/index/IntList", "get", "(I)I"⟩ : MethodName) (head1 (Jvm.Cond.code (⟨"com/example/cosine/cosine/index/IntList", "get", "(I)I"⟩ : MethodName) prog_18_method_4_code 2 (some .int) :: ws) ({ frames := 0, cells := 0, slots := 0, locals := 0 } : Room)) (fun a U => a = #[(.ref a1), (.int p2)] ∧ Z.Warmed39 U.vm ∧ U.heap = h0) (fun _ _ _ _ _ => True) (fun _ U o U' => ∃ v L, o = .returned v ∧ Q10 Z a1 p2 arr k z xs w h0 n0 v U'.heap L ∧ FrameEnd U o U' L ({ frames := 0, cells := 0, slots := 0, locals := 0 } : Room).cells ({ frames := 0, cells := 0, slots := 0, locals := 0 } : Room).slots) := by
  refine MetFree.of_bodySF (plainFor_of_name pn_0) hisR ?_
  intro p e s m args below meth c s₁ Bd hml0 hP hK
  obtain ⟨rfl, hZ, hh⟩ := hP
  have hx := Bd.exec
  have hby := Bd.bytes
  have hml : c.maxLocals = 2 := hml0
  have hown : s.vm.findClass "com/example/cosine/cosine/index/IntList" = some m.cls := findClass_of_methodNamed Bd.named
  have hnm := (name_of_methodNamed Bd.named Bd.method).1
  have X0 : Stand p l e ({ frames := 0, cells := 0, slots := 0, locals := 0 } : Room) s m #[(.ref a1), (.int p2)] below meth c s₁ [] 0 0 := Stand.of_body Bd
  have e0 : s₁.heap = h0 := by rw [← hh, Bd.state]; rfl
  have N0 := Fr.nil n0
  show Goes p e s below (fun v h L => Q10 Z a1 p2 arr k z xs w h0 n0 v h L) ({ frames := 0, cells := 0, slots := 0, locals := 0 } : Room).cells ({ frames := 0, cells := 0, slots := 0, locals := 0 } : Room).slots (s₁.setTop (entryFrame m #[(.ref a1), (.int p2)] 2))
  refine Goes.st (U' := s₁.setTop (mkF m 0 #[.val (.ref a1), .val (.int p2)] [])) (fun t k => castTop (ef_rm10 m a1 p2) k) ?_
  obtain ⟨E_a1, F_size_a1, F_values_a1, V_arr, E_arr, hle_a1, hz8_a1, hz0_a1, ne_a1_arr⟩ := I
  refine Goes.st (U' := s₁.setTop (mkF m 1 #[.val (.ref a1), .val (.int p2)] [(.ref a1)])) (fun t k => XS.aloadN X0.here hx rfl (hb hby d10_0) rfl rfl k) ?_
  obtain ⟨T1, X1, e1, st1⟩ := getF X0 hx hZ hown (host := "") (Or.inl (hw _ (List.mem_of_getElem? (i := 10) rfl))) Via.refl e0 F_values_a1 (g := (mkF m 1 #[.val (.ref a1), .val (.int p2)] [(.ref a1)])) rfl rfl (hb hby d10_1)
  refine Goes.st (U' := T1.setTop (mkF m 4 #[.val (.ref a1), .val (.int p2)] [(.ref arr)])) (fun t k => st1 t k) ?_
  refine Goes.st (U' := T1.setTop (mkF m 5 #[.val (.ref a1), .val (.int p2)] [(.int p2), (.ref arr)])) (fun t k => XS.iloadN X1.here hx rfl (hb hby d10_4) rfl k) ?_
  have Vx2 := V_arr
  obtain ⟨cl2, Ar2, qa2, S2, Nn2, H2, G2⟩ := Vx2
  have hin2 : ¬ (p2 < 0 ∨ cl2.slots.size ≤ (p2).toNatClampNeg) := inb_of S2 (own_lt _ _ _ hle_a1 hi hl)
  have hat2 : cl2.slots[(p2).toNatClampNeg]? = some (.int w) := H2.at hin2 hat
  refine Goes.st (U' := T1.setTop (mkF m 6 #[.val (.ref a1), .val (.int p2)] [(.int w)])) (fun t k => X1.iaload hx (j := p2) (v := (.int w)) (by rw [e1]; exact Ar2.1) (State.isArrayOf_alike hZ.alike Ar2.2.1) Ar2.2.2 hin2 hat2 (g := (mkF m 5 #[.val (.ref a1), .val (.int p2)] [(.int p2), (.ref arr)])) rfl rfl (hb hby d10_5) t k) ?_
  refine Goes.retI X1 hx (BodyLoose.notSynchronized Bd) Bd.returns (hb hby d10_6) (by decide) (by decide) ?_
  show Q10 Z a1 p2 arr k z xs w h0 n0 _ T1.heap _
  rw [e1]
  exact ⟨rfl, N0, rfl⟩
theorem own_cap (x : Int32) : ¬ (x &&& (3 : Int32)) < 0 ∧ (x &&& (3 : Int32)).toNatClampNeg ≤ 8 := by
  have h := c_mask x 3 2 (by decide) (by decide)
  rw [Int32.lt_iff_toInt_lt]
  have e0 : (0 : Int32).toInt = 0 := rfl
  simp only [Int32.toNatClampNeg]
  omega
theorem own_n (x : Int32) : (x &&& (3 : Int32)) = 0 ∨ (x &&& (3 : Int32)) = 1 ∨ (x &&& (3 : Int32)) = 2 ∨ (x &&& (3 : Int32)) = 3 := by
  have h := c_mask x 3 2 (by decide) (by decide)
  simp only [← Int32.toInt_inj]
  have e0 : (0 : Int32).toInt = 0 := rfl
  have e1 : (1 : Int32).toInt = 1 := rfl
  have e2 : (2 : Int32).toInt = 2 := rfl
  have e3 : (3 : Int32).toInt = 3 := rfl
  omega
theorem pd_4 : parseMethodDescriptor "()Lcom/example/cosine/cosine/index/IntList;" = some ⟨[], some (.object "com/example/cosine/cosine/index/IntList")⟩ := by decide +kernel
theorem pd_5 : parseMethodDescriptor "()I" = some ⟨[], some .int⟩ := by decide +kernel
theorem pd_6 : parseMethodDescriptor "(I)I" = some ⟨[.int], some .int⟩ := by decide +kernel
theorem pn_2 : plainName "com/example/cosine/cosine/index/IntListCopyPinLaw" = true := by first | (simp [plainName, overriddenIn]; done) | decide +kernel
theorem ef_rm0 (m : MethodId) (p1 : Int32) (p2 : Int32) (p3 : Int32) (p4 : Int32) (p5 : Int32) (p6 : Int32) : entryFrame m #[(.int p1), (.int p2), (.int p3), (.int p4), (.int p5), (.int p6)] maxLocals = mkF m 0 #[.val (.int p1), .val (.int p2), .val (.int p3), .val (.int p4), .val (.int p5), .val (.int p6), .unset, .unset, .unset, .unset, .unset] [] := by first | (simp [entryFrame, mkF, argsToLocals, Value.category, maxLocals]; done) | rfl
def Q0 (Z : State) (p1 : Int32) (p2 : Int32) (p3 : Int32) (p4 : Int32) (p5 : Int32) (p6 : Int32) (h0 : Heap) (n0 : Nat) (v : Option Value) (h : Heap) (L : List Loc) : Prop := v = some (.int 1) ∧ Fr n0 L
set_option maxRecDepth 65536 in
set_option maxHeartbeats 40000000 in
theorem rm0 (l : Launch) (Z : State) (a0 : Array Value) (hw : ∀ d ∈ tables_1, d.before a0 Z = true) (ws : List Jvm.Cond) (p1 : Int32) (p2 : Int32) (p3 : Int32) (p4 : Int32) (p5 : Int32) (p6 : Int32) (h0 : Heap) (n0 : Nat) (Z0 : n0 ≤ h0.size) :
    MetFree l x (head1 (Jvm.Cond.code x code maxLocals ret :: ws) room_1) (fun a U => a = #[(.int p1), (.int p2), (.int p3), (.int p4), (.int p5), (.int p6)] ∧ Z.Warmed39 U.vm ∧ U.heap = h0) (fun _ _ _ _ _ => True) (fun _ U o U' => ∃ v L, o = .returned v ∧ Q0 Z p1 p2 p3 p4 p5 p6 h0 n0 v U'.heap L ∧ FrameEnd U o U' L room_1.cells room_1.slots) := by
  refine MetFree.of_bodySF (plainFor_of_name pn_2) hisR ?_
  intro p e s m args below meth c s₁ Bd hml0 hP hK
  obtain ⟨rfl, hZ, hh⟩ := hP
  have hx := Bd.exec
  have hby := Bd.bytes
  have hml : c.maxLocals = 11 := hml0
  have hown : s.vm.findClass "com/example/cosine/cosine/index/IntListCopyPinLaw" = some m.cls := findClass_of_methodNamed Bd.named
  have hnm := (name_of_methodNamed Bd.named Bd.method).1
  have X0 : Stand p l e room_1 s m #[(.int p1), (.int p2), (.int p3), (.int p4), (.int p5), (.int p6)] below meth c s₁ [] 0 0 := Stand.of_body Bd
  have e0 : s₁.heap = h0 := by rw [← hh, Bd.state]; rfl
  have N0 := Fr.nil n0
  show Goes p e s below (fun v h L => Q0 Z p1 p2 p3 p4 p5 p6 h0 n0 v h L) room_1.cells room_1.slots (s₁.setTop (entryFrame m #[(.int p1), (.int p2), (.int p3), (.int p4), (.int p5), (.int p6)] maxLocals))
  refine Goes.st (U' := s₁.setTop (mkF m 0 #[.val (.int p1), .val (.int p2), .val (.int p3), .val (.int p4), .val (.int p5), .val (.int p6), .unset, .unset, .unset, .unset, .unset] [])) (fun t k => castTop (ef_rm0 m p1 p2 p3 p4 p5 p6) k) ?_
  refine Goes.st (U' := s₁.setTop (mkF m 1 #[.val (.int p1), .val (.int p2), .val (.int p3), .val (.int p4), .val (.int p5), .val (.int p6), .unset, .unset, .unset, .unset, .unset] [(.int p2)])) (fun t k => XS.iloadN X0.here hx rfl (hb hby at_0) rfl k) ?_
  refine Goes.st (U' := s₁.setTop (mkF m 2 #[.val (.int p1), .val (.int p2), .val (.int p3), .val (.int p4), .val (.int p5), .val (.int p6), .unset, .unset, .unset, .unset, .unset] [(.int (3 : Int32)), (.int p2)])) (fun t k => XS.iconst X0.here hx rfl (hb hby at_1) k) ?_
  refine Goes.st (U' := s₁.setTop (mkF m 3 #[.val (.int p1), .val (.int p2), .val (.int p3), .val (.int p4), .val (.int p5), .val (.int p6), .unset, .unset, .unset, .unset, .unset] [(.int (p2 &&& (3 : Int32)))])) (fun t k => XS.iand X0.here hx rfl (hb hby at_2) rfl k) ?_
  obtain ⟨nn1, hnn1⟩ : ∃ z : Int32, z = (p2 &&& (3 : Int32)) := ⟨_, rfl⟩
  have hcsnn1 : nn1 = (0 : Int32) ∨ nn1 = (1 : Int32) ∨ nn1 = (2 : Int32) ∨ nn1 = (3 : Int32) := by rw [hnn1]; exact own_n p2
  rw [← hnn1]
  clear hnn1
  rcases hcsnn1 with rfl | rfl | rfl | rfl
  · skip
    refine Goes.st (U' := s₁.setTop (mkF m 5 #[.val (.int p1), .val (.int p2), .val (.int p3), .val (.int p4), .val (.int p5), .val (.int p6), .val (.int (0 : Int32)), .unset, .unset, .unset, .unset] [])) (fun t k => XS.istore X0.here hx rfl (hb hby at_3) rfl (l' := #[.val (.int p1), .val (.int p2), .val (.int p3), .val (.int p4), .val (.int p5), .val (.int p6), .val (.int (0 : Int32)), .unset, .unset, .unset, .unset]) rfl k) ?_
    refine Goes.st (U' := s₁.setTop (mkF m 7 #[.val (.int p1), .val (.int p2), .val (.int p3), .val (.int p4), .val (.int p5), .val (.int p6), .val (.int (0 : Int32)), .unset, .unset, .unset, .unset] [(.int p6)])) (fun t k => XS.iload X0.here hx rfl (hb hby at_5) rfl k) ?_
    refine Goes.st (U' := s₁.setTop (mkF m 8 #[.val (.int p1), .val (.int p2), .val (.int p3), .val (.int p4), .val (.int p5), .val (.int p6), .val (.int (0 : Int32)), .unset, .unset, .unset, .unset] [(.int (-1 : Int32)), (.int p6)])) (fun t k => XS.iconst X0.here hx rfl (hb hby at_7) k) ?_
    refine Goes.st (U' := s₁.setTop (mkF m 9 #[.val (.int p1), .val (.int p2), .val (.int p3), .val (.int p4), .val (.int p5), .val (.int p6), .val (.int (0 : Int32)), .unset, .unset, .unset, .unset] [(.int (p6 ^^^ (-1 : Int32)))])) (fun t k => XS.ixor X0.here hx rfl (hb hby at_8) rfl k) ?_
    refine Goes.st (U' := s₁.setTop (mkF m 11 #[.val (.int p1), .val (.int p2), .val (.int p3), .val (.int p4), .val (.int p5), .val (.int p6), .val (.int (0 : Int32)), .val (.int (p6 ^^^ (-1 : Int32))), .unset, .unset, .unset] [])) (fun t k => XS.istore X0.here hx rfl (hb hby at_9) rfl (l' := #[.val (.int p1), .val (.int p2), .val (.int p3), .val (.int p4), .val (.int p5), .val (.int p6), .val (.int (0 : Int32)), .val (.int (p6 ^^^ (-1 : Int32))), .unset, .unset, .unset]) rfl k) ?_
    obtain ⟨T2, h2, X2, e2, E2, A2, D2, -, st2⟩ := newO X0 hx hZ hown (hw _ (List.mem_of_getElem? (i := 0) rfl)) (hw _ (List.mem_of_getElem? (i := 1) rfl)) (hw _ (List.mem_of_getElem? (i := 2) rfl)) e0 (g := (mkF m 11 #[.val (.int p1), .val (.int p2), .val (.int p3), .val (.int p4), .val (.int p5), .val (.int p6), .val (.int (0 : Int32)), .val (.int (p6 ^^^ (-1 : Int32))), .unset, .unset, .unset] [])) rfl (hb hby at_11) (by decide) (by decide)
    obtain ⟨b2, g2⟩ : ∃ z, z = h0.size := ⟨_, rfl⟩
    rw [← g2] at A2 D2 st2
    have g_b2 : n0 ≤ b2 := Nat.le_trans Z0 (Nat.le_of_eq g2.symm)
    have F_values_b2 : Fld Z h2 b2 "com/example/cosine/cosine/index/IntList" "values" "[I" .null := D2 (Or.inl (hw _ (List.mem_of_getElem? (i := 11) rfl))) (ty := (.array .int)) (by decide)
    have F_size_b2 : Fld Z h2 b2 "com/example/cosine/cosine/index/IntList" "size" "I" (.int (0 : Int32)) := D2 (Or.inl (hw _ (List.mem_of_getElem? (i := 18) rfl))) (ty := .int) (by decide)
    refine Goes.st (U' := T2.setTop (mkF m 14 #[.val (.int p1), .val (.int p2), .val (.int p3), .val (.int p4), .val (.int p5), .val (.int p6), .val (.int (0 : Int32)), .val (.int (p6 ^^^ (-1 : Int32))), .unset, .unset, .unset] [(.ref b2)])) (fun t k => st2 t k) ?_
    refine Goes.st (U' := T2.setTop (mkF m 15 #[.val (.int p1), .val (.int p2), .val (.int p3), .val (.int p4), .val (.int p5), .val (.int p6), .val (.int (0 : Int32)), .val (.int (p6 ^^^ (-1 : Int32))), .unset, .unset, .unset] [(.ref b2), (.ref b2)])) (fun t k => XS.dup X2.here hx rfl (hb hby at_14) rfl rfl k) ?_
    refine Goes.st (U' := T2.setTop (mkF m 16 #[.val (.int p1), .val (.int p2), .val (.int p3), .val (.int p4), .val (.int p5), .val (.int p6), .val (.int (0 : Int32)), .val (.int (p6 ^^^ (-1 : Int32))), .unset, .unset, .unset] [(.int p1), (.ref b2), (.ref b2)])) (fun t k => XS.iloadN X2.here hx rfl (hb hby at_15) rfl k) ?_
    refine Goes.st (U' := T2.setTop (mkF m 17 #[.val (.int p1), .val (.int p2), .val (.int p3), .val (.int p4), .val (.int p5), .val (.int p6), .val (.int (0 : Int32)), .val (.int (p6 ^^^ (-1 : Int32))), .unset, .unset, .unset] [(.int (3 : Int32)), (.int p1), (.ref b2), (.ref b2)])) (fun t k => XS.iconst X2.here hx rfl (hb hby at_16) k) ?_
    refine Goes.st (U' := T2.setTop (mkF m 18 #[.val (.int p1), .val (.int p2), .val (.int p3), .val (.int p4), .val (.int p5), .val (.int p6), .val (.int (0 : Int32)), .val (.int (p6 ^^^ (-1 : Int32))), .unset, .unset, .unset] [(.int (p1 &&& (3 : Int32))), (.ref b2), (.ref b2)])) (fun t k => XS.iand X2.here hx rfl (hb hby at_17) rfl k) ?_
    obtain ⟨_, _, ⟨T3, L3, k3, n3⟩, -, X3, ⟨Lc3, hQ3, l3, y3, z3⟩, st3⟩ := X2.specialBack hx (y := (⟨"com/example/cosine/cosine/index/IntList", "<init>", "(I)V"⟩ : MethodName)) rfl hown (mvT hZ (hw _ (List.mem_of_getElem? (i := 3) rfl))) (mvT hZ (hw _ (List.mem_of_getElem? (i := 4) rfl))) (mvT hZ (hw _ (List.mem_of_getElem? (i := 5) rfl))) (by decide) (backOf (W := 1) (rm1 l Z a0 hw [] b2 (p1 &&& (3 : Int32)) h2 n0 (Nat.le_trans Z0 E2.1) (A2) (F_values_b2) (F_size_b2) (g_b2) ((own_cap p1).1) ((own_cap p1).2)) hZ (hw _ (List.mem_of_getElem? (i := 5) rfl)) (hw _ (List.mem_of_getElem? (i := 2) rfl)) (by decide) (by decide)) (g := (mkF m 18 #[.val (.int p1), .val (.int p2), .val (.int p3), .val (.int p4), .val (.int p5), .val (.int p6), .val (.int (0 : Int32)), .val (.int (p6 ^^^ (-1 : Int32))), .unset, .unset, .unset] [(.int (p1 &&& (3 : Int32))), (.ref b2), (.ref b2)])) rfl (by rw [hml]; rfl) (Steps.refl _) (a := b2) (argsL := [(.int (p1 &&& (3 : Int32)))]) (rest := [(.ref b2)]) (lenOf pd_3 rfl) rfl (by show 2 * 0 + _ ≤ _; exact Nat.le_of_eq rfl) (hb hby at_18) (fun _ _ => ⟨rfl, e2, (by decide : 1 + 1 ≤ _), (by decide : 2 + 8 ≤ _)⟩)
    dsimp only [Pt.U, Pt.locs, Pt.cells, Pt.slots] at X3 l3 y3 z3 st3 hQ3
    subst l3 y3 z3
    obtain ⟨rfl, N3q, K3, ar3, ka3, I3, g_ar3, u3⟩ := hQ3
    have N3 := Fr.app N0 N3q
    have ne_b2_ar3 : b2 ≠ ar3 := Nat.ne_of_lt (Nat.lt_of_lt_of_le A2.lt u3)
    refine Goes.tr (U' := T3.setTop (mkF m 21 #[.val (.int p1), .val (.int p2), .val (.int p3), .val (.int p4), .val (.int p5), .val (.int p6), .val (.int (0 : Int32)), .val (.int (p6 ^^^ (-1 : Int32))), .unset, .unset, .unset] [(.ref b2)])) st3 ?_
    refine Goes.st (U' := T3.setTop (mkF m 23 #[.val (.int p1), .val (.int p2), .val (.int p3), .val (.int p4), .val (.int p5), .val (.int p6), .val (.int (0 : Int32)), .val (.int (p6 ^^^ (-1 : Int32))), .val (.ref b2), .unset, .unset] [])) (fun t k => XS.astore X3.here hx rfl (hb hby at_21) rfl rfl (l' := #[.val (.int p1), .val (.int p2), .val (.int p3), .val (.int p4), .val (.int p5), .val (.int p6), .val (.int (0 : Int32)), .val (.int (p6 ^^^ (-1 : Int32))), .val (.ref b2), .unset, .unset]) rfl k) ?_
    refine Goes.st (U' := T3.setTop (mkF m 25 #[.val (.int p1), .val (.int p2), .val (.int p3), .val (.int p4), .val (.int p5), .val (.int p6), .val (.int (0 : Int32)), .val (.int (p6 ^^^ (-1 : Int32))), .val (.ref b2), .unset, .unset] [(.int (0 : Int32))])) (fun t k => XS.iload X3.here hx rfl (hb hby at_23) rfl k) ?_
    refine Goes.st (U' := T3.setTop (mkF m 34 #[.val (.int p1), .val (.int p2), .val (.int p3), .val (.int p4), .val (.int p5), .val (.int p6), .val (.int (0 : Int32)), .val (.int (p6 ^^^ (-1 : Int32))), .val (.ref b2), .unset, .unset] [])) (fun t k => XS.ifYes X3.here hx rfl (pc0 := 25) (pc' := 34) rfl (hb hby at_25) rfl ((if0 _ _).trans (flt (by decide : ¬ ((0 : Int32) < (0 : Int32)))).2.2.2) (by decide) (by decide) k) ?_
    refine Goes.st (U' := T3.setTop (mkF m 36 #[.val (.int p1), .val (.int p2), .val (.int p3), .val (.int p4), .val (.int p5), .val (.int p6), .val (.int (0 : Int32)), .val (.int (p6 ^^^ (-1 : Int32))), .val (.ref b2), .unset, .unset] [(.int (0 : Int32))])) (fun t k => XS.iload X3.here hx rfl (hb hby at_34) rfl k) ?_
    refine Goes.st (U' := T3.setTop (mkF m 37 #[.val (.int p1), .val (.int p2), .val (.int p3), .val (.int p4), .val (.int p5), .val (.int p6), .val (.int (0 : Int32)), .val (.int (p6 ^^^ (-1 : Int32))), .val (.ref b2), .unset, .unset] [(.int (1 : Int32)), (.int (0 : Int32))])) (fun t k => XS.iconst X3.here hx rfl (hb hby at_36) k) ?_
    refine Goes.st (U' := T3.setTop (mkF m 46 #[.val (.int p1), .val (.int p2), .val (.int p3), .val (.int p4), .val (.int p5), .val (.int p6), .val (.int (0 : Int32)), .val (.int (p6 ^^^ (-1 : Int32))), .val (.ref b2), .unset, .unset] [])) (fun t k => XS.icmpYes X3.here hx rfl (pc0 := 37) (pc' := 46) rfl (hb hby at_37) rfl (flt (by decide : ¬ ((1 : Int32) < (0 : Int32)))).2.2.2 (by decide) (by decide) k) ?_
    refine Goes.st (U' := T3.setTop (mkF m 48 #[.val (.int p1), .val (.int p2), .val (.int p3), .val (.int p4), .val (.int p5), .val (.int p6), .val (.int (0 : Int32)), .val (.int (p6 ^^^ (-1 : Int32))), .val (.ref b2), .unset, .unset] [(.int (0 : Int32))])) (fun t k => XS.iload X3.here hx rfl (hb hby at_46) rfl k) ?_
    refine Goes.st (U' := T3.setTop (mkF m 49 #[.val (.int p1), .val (.int p2), .val (.int p3), .val (.int p4), .val (.int p5), .val (.int p6), .val (.int (0 : Int32)), .val (.int (p6 ^^^ (-1 : Int32))), .val (.ref b2), .unset, .unset] [(.int (2 : Int32)), (.int (0 : Int32))])) (fun t k => XS.iconst X3.here hx rfl (hb hby at_48) k) ?_
    refine Goes.st (U' := T3.setTop (mkF m 59 #[.val (.int p1), .val (.int p2), .val (.int p3), .val (.int p4), .val (.int p5), .val (.int p6), .val (.int (0 : Int32)), .val (.int (p6 ^^^ (-1 : Int32))), .val (.ref b2), .unset, .unset] [])) (fun t k => XS.icmpYes X3.here hx rfl (pc0 := 49) (pc' := 59) rfl (hb hby at_49) rfl (flt (by decide : ¬ ((2 : Int32) < (0 : Int32)))).2.2.2 (by decide) (by decide) k) ?_
    refine Goes.st (U' := T3.setTop (mkF m 61 #[.val (.int p1), .val (.int p2), .val (.int p3), .val (.int p4), .val (.int p5), .val (.int p6), .val (.int (0 : Int32)), .val (.int (p6 ^^^ (-1 : Int32))), .val (.ref b2), .unset, .unset] [(.ref b2)])) (fun t k => XS.aload X3.here hx rfl (hb hby at_59) rfl rfl k) ?_
    obtain ⟨cq4, kq4, q4a, q4b, q4c⟩ := isOf hZ rfl I3.1
    obtain ⟨_, _, ⟨T4, L4, k4, n4⟩, -, X4, ⟨Lc4, hQ4, l4, y4, z4⟩, st4⟩ := X3.virtualBack hx (y := (⟨"com/example/cosine/cosine/index/IntList", "copy", "()Lcom/example/cosine/cosine/index/IntList;"⟩ : MethodName)) (z := (⟨"com/example/cosine/cosine/index/IntList", "copy", "()Lcom/example/cosine/cosine/index/IntList;"⟩ : MethodName)) hown (mvT hZ (hw _ (List.mem_of_getElem? (i := 40) rfl))) (mvT hZ (hw _ (List.mem_of_getElem? (i := 41) rfl))) (notFace_of_selects (args := #[]) (mvT hZ (hw _ (List.mem_of_getElem? (i := 43) rfl)))) (mvT hZ (hw _ (List.mem_of_getElem? (i := 43) rfl))) (mvT hZ (hw _ (List.mem_of_getElem? (i := 42) rfl))) (by decide) (backOf (W := 0) (rm8 l Z a0 hw [] b2 ar3 ka3 (p1 &&& (3 : Int32)) [] T3.heap n0 (Nat.le_trans (Nat.le_trans Z0 E2.1) K3.1) (I3) ((Nat.le_of_ble_eq_true rfl))) hZ (hw _ (List.mem_of_getElem? (i := 44) rfl)) (hw _ (List.mem_of_getElem? (i := 2) rfl)) (by decide) (by decide)) q4a q4c (g := (mkF m 61 #[.val (.int p1), .val (.int p2), .val (.int p3), .val (.int p4), .val (.int p5), .val (.int p6), .val (.int (0 : Int32)), .val (.int (p6 ^^^ (-1 : Int32))), .val (.ref b2), .unset, .unset] [(.ref b2)])) rfl (by rw [hml]; rfl) (Steps.refl _) (argsL := []) (rest := []) (lenOf pd_4 rfl) rfl (by show 2 * 0 + _ ≤ _; exact Nat.le_of_eq rfl) (hb hby at_61) (fun _ _ => ⟨rfl, rfl, (by decide : 2 + 3 ≤ _), (by decide : 10 + 18 ≤ _)⟩)
    dsimp only [Pt.U, Pt.locs, Pt.cells, Pt.slots] at X4 l4 y4 z4 st4 hQ4
    subst l4 y4 z4
    obtain ⟨cc4, ca4, kc4, rfl, N4q, K4, I4, g_cc4, g_ca4, u4, w4⟩ := hQ4
    have N4 := Fr.app N3 N4q
    have ne_ar3_cc4 : ar3 ≠ cc4 := Nat.ne_of_lt (Nat.lt_of_lt_of_le I3.2.2.2.2.1.lt u4)
    have ne_b2_cc4 : b2 ≠ cc4 := Nat.ne_of_lt (Nat.lt_of_lt_of_le I3.1.lt u4)
    have ne_ar3_ca4 : ar3 ≠ ca4 := Nat.ne_of_lt (Nat.lt_of_lt_of_le I3.2.2.2.2.1.lt w4)
    have ne_b2_ca4 : b2 ≠ ca4 := Nat.ne_of_lt (Nat.lt_of_lt_of_le I3.1.lt w4)
    have ne_cc4_ca4 : cc4 ≠ ca4 := I4.2.2.2.2.2.2.2.2
    have IK5 := IL.keep I3 K4 nin0 nin0
    refine Goes.tr (U' := T4.setTop (mkF m 64 #[.val (.int p1), .val (.int p2), .val (.int p3), .val (.int p4), .val (.int p5), .val (.int p6), .val (.int (0 : Int32)), .val (.int (p6 ^^^ (-1 : Int32))), .val (.ref b2), .unset, .unset] [(.ref cc4)])) st4 ?_
    refine Goes.st (U' := T4.setTop (mkF m 66 #[.val (.int p1), .val (.int p2), .val (.int p3), .val (.int p4), .val (.int p5), .val (.int p6), .val (.int (0 : Int32)), .val (.int (p6 ^^^ (-1 : Int32))), .val (.ref b2), .val (.ref cc4), .unset] [])) (fun t k => XS.astore X4.here hx rfl (hb hby at_64) rfl rfl (l' := #[.val (.int p1), .val (.int p2), .val (.int p3), .val (.int p4), .val (.int p5), .val (.int p6), .val (.int (0 : Int32)), .val (.int (p6 ^^^ (-1 : Int32))), .val (.ref b2), .val (.ref cc4), .unset]) rfl k) ?_
    refine Goes.st (U' := T4.setTop (mkF m 68 #[.val (.int p1), .val (.int p2), .val (.int p3), .val (.int p4), .val (.int p5), .val (.int p6), .val (.int (0 : Int32)), .val (.int (p6 ^^^ (-1 : Int32))), .val (.ref b2), .val (.ref cc4), .unset] [(.ref cc4)])) (fun t k => XS.aload X4.here hx rfl (hb hby at_66) rfl rfl k) ?_
    obtain ⟨cq6, kq6, q6a, q6b, q6c⟩ := isOf hZ rfl I4.1
    obtain ⟨_, _, ⟨T6, L6, k6, n6⟩, -, X6, ⟨Lc6, hQ6, l6, y6, z6⟩, st6⟩ := X4.virtualBack hx (y := (⟨"com/example/cosine/cosine/index/IntList", "size", "()I"⟩ : MethodName)) (z := (⟨"com/example/cosine/cosine/index/IntList", "size", "()I"⟩ : MethodName)) hown (mvT hZ (hw _ (List.mem_of_getElem? (i := 47) rfl))) (mvT hZ (hw _ (List.mem_of_getElem? (i := 48) rfl))) (notFace_of_selects (args := #[]) (mvT hZ (hw _ (List.mem_of_getElem? (i := 50) rfl)))) (mvT hZ (hw _ (List.mem_of_getElem? (i := 50) rfl))) (mvT hZ (hw _ (List.mem_of_getElem? (i := 49) rfl))) (by decide) (backOf (W := 0) (rm9 l Z a0 hw [] cc4 ca4 kc4 (([] : List Int32).length.toInt32) [] T4.heap n0 (Nat.le_trans (Nat.le_trans (Nat.le_trans Z0 E2.1) K3.1) K4.1) (I4)) hZ (hw _ (List.mem_of_getElem? (i := 51) rfl)) (hw _ (List.mem_of_getElem? (i := 2) rfl)) (by decide) (by decide)) q6a q6c (g := (mkF m 68 #[.val (.int p1), .val (.int p2), .val (.int p3), .val (.int p4), .val (.int p5), .val (.int p6), .val (.int (0 : Int32)), .val (.int (p6 ^^^ (-1 : Int32))), .val (.ref b2), .val (.ref cc4), .unset] [(.ref cc4)])) rfl (by rw [hml]; rfl) (Steps.refl _) (argsL := []) (rest := []) (lenOf pd_5 rfl) rfl (by show 2 * 0 + _ ≤ _; exact Nat.le_of_eq rfl) (hb hby at_68) (fun _ _ => ⟨rfl, rfl, (by decide : 5 + 0 ≤ _), (by decide : 28 + 0 ≤ _)⟩)
    dsimp only [Pt.U, Pt.locs, Pt.cells, Pt.slots] at X6 l6 y6 z6 st6 hQ6
    subst l6 y6 z6
    obtain ⟨rfl, N6q, e6⟩ := hQ6
    have N6 := Fr.app N4 N6q
    replace e6 := e6
    refine Goes.tr (U' := T6.setTop (mkF m 71 #[.val (.int p1), .val (.int p2), .val (.int p3), .val (.int p4), .val (.int p5), .val (.int p6), .val (.int (0 : Int32)), .val (.int (p6 ^^^ (-1 : Int32))), .val (.ref b2), .val (.ref cc4), .unset] [(.int (0 : Int32))])) st6 ?_
    refine Goes.st (U' := T6.setTop (mkF m 73 #[.val (.int p1), .val (.int p2), .val (.int p3), .val (.int p4), .val (.int p5), .val (.int p6), .val (.int (0 : Int32)), .val (.int (p6 ^^^ (-1 : Int32))), .val (.ref b2), .val (.ref cc4), .unset] [(.int (0 : Int32)), (.int (0 : Int32))])) (fun t k => XS.iload X6.here hx rfl (hb hby at_71) rfl k) ?_
    refine Goes.st (U' := T6.setTop (mkF m 76 #[.val (.int p1), .val (.int p2), .val (.int p3), .val (.int p4), .val (.int p5), .val (.int p6), .val (.int (0 : Int32)), .val (.int (p6 ^^^ (-1 : Int32))), .val (.ref b2), .val (.ref cc4), .unset] [])) (fun t k => XS.icmpNo X6.here hx rfl (hb hby at_73) rfl (teq (rfl : (0 : Int32) = (0 : Int32))).2 k) ?_
    refine Goes.st (U' := T6.setTop (mkF m 77 #[.val (.int p1), .val (.int p2), .val (.int p3), .val (.int p4), .val (.int p5), .val (.int p6), .val (.int (0 : Int32)), .val (.int (p6 ^^^ (-1 : Int32))), .val (.ref b2), .val (.ref cc4), .unset] [(.int (1 : Int32))])) (fun t k => XS.iconst X6.here hx rfl (hb hby at_76) k) ?_
    refine Goes.st (U' := T6.setTop (mkF m 81 #[.val (.int p1), .val (.int p2), .val (.int p3), .val (.int p4), .val (.int p5), .val (.int p6), .val (.int (0 : Int32)), .val (.int (p6 ^^^ (-1 : Int32))), .val (.ref b2), .val (.ref cc4), .unset] [(.int (1 : Int32))])) (fun t k => XS.goto X6.here hx rfl (pc0 := 77) (pc' := 81) rfl (hb hby at_77) (by decide) (by decide) k) ?_
    refine Goes.st (U' := T6.setTop (mkF m 83 #[.val (.int p1), .val (.int p2), .val (.int p3), .val (.int p4), .val (.int p5), .val (.int p6), .val (.int (0 : Int32)), .val (.int (p6 ^^^ (-1 : Int32))), .val (.ref b2), .val (.ref cc4), .val (.int (1 : Int32))] [])) (fun t k => XS.istore X6.here hx rfl (hb hby at_81) rfl (l' := #[.val (.int p1), .val (.int p2), .val (.int p3), .val (.int p4), .val (.int p5), .val (.int p6), .val (.int (0 : Int32)), .val (.int (p6 ^^^ (-1 : Int32))), .val (.ref b2), .val (.ref cc4), .val (.int (1 : Int32))]) rfl k) ?_
    refine Goes.st (U' := T6.setTop (mkF m 85 #[.val (.int p1), .val (.int p2), .val (.int p3), .val (.int p4), .val (.int p5), .val (.int p6), .val (.int (0 : Int32)), .val (.int (p6 ^^^ (-1 : Int32))), .val (.ref b2), .val (.ref cc4), .val (.int (1 : Int32))] [(.ref cc4)])) (fun t k => XS.aload X6.here hx rfl (hb hby at_83) rfl rfl k) ?_
    refine Goes.st (U' := T6.setTop (mkF m 87 #[.val (.int p1), .val (.int p2), .val (.int p3), .val (.int p4), .val (.int p5), .val (.int p6), .val (.int (0 : Int32)), .val (.int (p6 ^^^ (-1 : Int32))), .val (.ref b2), .val (.ref cc4), .val (.int (1 : Int32))] [(.int p6), (.ref cc4)])) (fun t k => XS.iload X6.here hx rfl (hb hby at_85) rfl k) ?_
    obtain ⟨cq7, kq7, q7a, q7b, q7c⟩ := isOf hZ e6 I4.1
    obtain ⟨_, _, ⟨T7, L7, k7, n7⟩, -, X7, ⟨Lc7, hQ7, l7, y7, z7⟩, st7⟩ := X6.virtualBack hx (y := (⟨"com/example/cosine/cosine/index/IntList", "add", "(I)V"⟩ : MethodName)) (z := (⟨"com/example/cosine/cosine/index/IntList", "add", "(I)V"⟩ : MethodName)) hown (mvT hZ (hw _ (List.mem_of_getElem? (i := 12) rfl))) (mvT hZ (hw _ (List.mem_of_getElem? (i := 13) rfl))) (notFace_of_selects (args := #[]) (mvT hZ (hw _ (List.mem_of_getElem? (i := 15) rfl)))) (mvT hZ (hw _ (List.mem_of_getElem? (i := 15) rfl))) (mvT hZ (hw _ (List.mem_of_getElem? (i := 14) rfl))) (by decide) (backOf (W := 0) (rm3 l Z a0 hw [] cc4 p6 ca4 kc4 (([] : List Int32).length.toInt32) [] T4.heap n0 (Nat.le_trans (Nat.le_trans (Nat.le_trans Z0 E2.1) K3.1) K4.1) (I4) ((Nat.le_of_ble_eq_true rfl)) (g_cc4) (g_ca4)) hZ (hw _ (List.mem_of_getElem? (i := 16) rfl)) (hw _ (List.mem_of_getElem? (i := 2) rfl)) (by decide) (by decide)) q7a q7c (g := (mkF m 87 #[.val (.int p1), .val (.int p2), .val (.int p3), .val (.int p4), .val (.int p5), .val (.int p6), .val (.int (0 : Int32)), .val (.int (p6 ^^^ (-1 : Int32))), .val (.ref b2), .val (.ref cc4), .val (.int (1 : Int32))] [(.int p6), (.ref cc4)])) rfl (by rw [hml]; rfl) (Steps.refl _) (argsL := [(.int p6)]) (rest := []) (lenOf pd_3 rfl) rfl (by show 2 * 0 + _ ≤ _; exact Nat.le_of_eq rfl) (hb hby at_87) (fun _ _ => ⟨rfl, e6, (by decide : 5 + 1 ≤ _), (by decide : 28 + 8 ≤ _)⟩)
    dsimp only [Pt.U, Pt.locs, Pt.cells, Pt.slots] at X7 l7 y7 z7 st7 hQ7
    subst l7 y7 z7
    obtain ⟨rfl, N7q, K7, ar7, ka7, za7, I7, g_ar7, u7⟩ := hQ7
    have N7 := Fr.app N6 N7q
    have ne_ar3_ar7 : ar3 ≠ ar7 := u7.elim (fun q => q ▸ ne_ar3_ca4) (fun q => Nat.ne_of_lt (Nat.lt_of_lt_of_le (I3.2.2.2.2.1.keep K4).lt q))
    have ne_b2_ar7 : b2 ≠ ar7 := u7.elim (fun q => q ▸ ne_b2_ca4) (fun q => Nat.ne_of_lt (Nat.lt_of_lt_of_le (I3.1.keep K4).lt q))
    have ne_cc4_ar7 : cc4 ≠ ar7 := I7.2.2.2.2.2.2.2.2
    have IK8 := IL.keep IK5 K7 (ninS ne_b2_cc4 (ninS ne_b2_ca4 nin0)) (ninS ne_ar3_cc4 (ninS ne_ar3_ca4 nin0))
    refine Goes.tr (U' := T7.setTop (mkF m 90 #[.val (.int p1), .val (.int p2), .val (.int p3), .val (.int p4), .val (.int p5), .val (.int p6), .val (.int (0 : Int32)), .val (.int (p6 ^^^ (-1 : Int32))), .val (.ref b2), .val (.ref cc4), .val (.int (1 : Int32))] [])) st7 ?_
    refine Goes.st (U' := T7.setTop (mkF m 92 #[.val (.int p1), .val (.int p2), .val (.int p3), .val (.int p4), .val (.int p5), .val (.int p6), .val (.int (0 : Int32)), .val (.int (p6 ^^^ (-1 : Int32))), .val (.ref b2), .val (.ref cc4), .val (.int (1 : Int32))] [(.ref b2)])) (fun t k => XS.aload X7.here hx rfl (hb hby at_90) rfl rfl k) ?_
    refine Goes.st (U' := T7.setTop (mkF m 94 #[.val (.int p1), .val (.int p2), .val (.int p3), .val (.int p4), .val (.int p5), .val (.int p6), .val (.int (0 : Int32)), .val (.int (p6 ^^^ (-1 : Int32))), .val (.ref b2), .val (.ref cc4), .val (.int (1 : Int32))] [(.int (p6 ^^^ (-1 : Int32))), (.ref b2)])) (fun t k => XS.iload X7.here hx rfl (hb hby at_92) rfl k) ?_
    obtain ⟨cq9, kq9, q9a, q9b, q9c⟩ := isOf hZ rfl ((I3.1.keep K4).keep K7)
    obtain ⟨_, _, ⟨T9, L9, k9, n9⟩, -, X9, ⟨Lc9, hQ9, l9, y9, z9⟩, st9⟩ := X7.virtualBack hx (y := (⟨"com/example/cosine/cosine/index/IntList", "add", "(I)V"⟩ : MethodName)) (z := (⟨"com/example/cosine/cosine/index/IntList", "add", "(I)V"⟩ : MethodName)) hown (mvT hZ (hw _ (List.mem_of_getElem? (i := 12) rfl))) (mvT hZ (hw _ (List.mem_of_getElem? (i := 13) rfl))) (notFace_of_selects (args := #[]) (mvT hZ (hw _ (List.mem_of_getElem? (i := 15) rfl)))) (mvT hZ (hw _ (List.mem_of_getElem? (i := 15) rfl))) (mvT hZ (hw _ (List.mem_of_getElem? (i := 14) rfl))) (by decide) (backOf (W := 0) (rm3 l Z a0 hw [] b2 (p6 ^^^ (-1 : Int32)) ar3 ka3 (p1 &&& (3 : Int32)) [] T7.heap n0 (Nat.le_trans (Nat.le_trans (Nat.le_trans (Nat.le_trans Z0 E2.1) K3.1) K4.1) K7.1) (IK8) ((Nat.le_of_ble_eq_true rfl)) (g_b2) (g_ar3)) hZ (hw _ (List.mem_of_getElem? (i := 16) rfl)) (hw _ (List.mem_of_getElem? (i := 2) rfl)) (by decide) (by decide)) q9a q9c (g := (mkF m 94 #[.val (.int p1), .val (.int p2), .val (.int p3), .val (.int p4), .val (.int p5), .val (.int p6), .val (.int (0 : Int32)), .val (.int (p6 ^^^ (-1 : Int32))), .val (.ref b2), .val (.ref cc4), .val (.int (1 : Int32))] [(.int (p6 ^^^ (-1 : Int32))), (.ref b2)])) rfl (by rw [hml]; rfl) (Steps.refl _) (argsL := [(.int (p6 ^^^ (-1 : Int32)))]) (rest := []) (lenOf pd_3 rfl) rfl (by show 2 * 0 + _ ≤ _; exact Nat.le_of_eq rfl) (hb hby at_94) (fun _ _ => ⟨rfl, rfl, (by decide : 6 + 1 ≤ _), (by decide : 36 + 8 ≤ _)⟩)
    dsimp only [Pt.U, Pt.locs, Pt.cells, Pt.slots] at X9 l9 y9 z9 st9 hQ9
    subst l9 y9 z9
    obtain ⟨rfl, N9q, K9, ar9, ka9, za9, I9, g_ar9, u9⟩ := hQ9
    have N9 := Fr.app N7 N9q
    have ne_ar7_ar9 : ar7 ≠ ar9 := u9.elim (fun q => q ▸ (Ne.symm ne_ar3_ar7)) (fun q => Nat.ne_of_lt (Nat.lt_of_lt_of_le I7.2.2.2.2.1.lt q))
    have ne_cc4_ar9 : cc4 ≠ ar9 := u9.elim (fun q => q ▸ (Ne.symm ne_ar3_cc4)) (fun q => Nat.ne_of_lt (Nat.lt_of_lt_of_le I7.1.lt q))
    have ne_b2_ar9 : b2 ≠ ar9 := I9.2.2.2.2.2.2.2.2
    have IK10 := IL.keep I7 K9 (ninS (Ne.symm ne_b2_cc4) (ninS (Ne.symm ne_ar3_cc4) nin0)) (ninS (Ne.symm ne_b2_ar7) (ninS (Ne.symm ne_ar3_ar7) nin0))
    refine Goes.tr (U' := T9.setTop (mkF m 97 #[.val (.int p1), .val (.int p2), .val (.int p3), .val (.int p4), .val (.int p5), .val (.int p6), .val (.int (0 : Int32)), .val (.int (p6 ^^^ (-1 : Int32))), .val (.ref b2), .val (.ref cc4), .val (.int (1 : Int32))] [])) st9 ?_
    refine Goes.st (U' := T9.setTop (mkF m 99 #[.val (.int p1), .val (.int p2), .val (.int p3), .val (.int p4), .val (.int p5), .val (.int p6), .val (.int (0 : Int32)), .val (.int (p6 ^^^ (-1 : Int32))), .val (.ref b2), .val (.ref cc4), .val (.int (1 : Int32))] [(.int (1 : Int32))])) (fun t k => XS.iload X9.here hx rfl (hb hby at_97) rfl k) ?_
    refine Goes.st (U' := T9.setTop (mkF m 102 #[.val (.int p1), .val (.int p2), .val (.int p3), .val (.int p4), .val (.int p5), .val (.int p6), .val (.int (0 : Int32)), .val (.int (p6 ^^^ (-1 : Int32))), .val (.ref b2), .val (.ref cc4), .val (.int (1 : Int32))] [])) (fun t k => XS.ifNo X9.here hx rfl (hb hby at_99) rfl ((if0 _ _).trans (feq (by decide : ¬ ((1 : Int32) = (0 : Int32)))).1) k) ?_
    refine Goes.st (U' := T9.setTop (mkF m 104 #[.val (.int p1), .val (.int p2), .val (.int p3), .val (.int p4), .val (.int p5), .val (.int p6), .val (.int (0 : Int32)), .val (.int (p6 ^^^ (-1 : Int32))), .val (.ref b2), .val (.ref cc4), .val (.int (1 : Int32))] [(.ref cc4)])) (fun t k => XS.aload X9.here hx rfl (hb hby at_102) rfl rfl k) ?_
    obtain ⟨cq11, kq11, q11a, q11b, q11c⟩ := isOf hZ rfl (I7.1.keep K9)
    obtain ⟨_, _, ⟨T11, L11, k11, n11⟩, -, X11, ⟨Lc11, hQ11, l11, y11, z11⟩, st11⟩ := X9.virtualBack hx (y := (⟨"com/example/cosine/cosine/index/IntList", "size", "()I"⟩ : MethodName)) (z := (⟨"com/example/cosine/cosine/index/IntList", "size", "()I"⟩ : MethodName)) hown (mvT hZ (hw _ (List.mem_of_getElem? (i := 47) rfl))) (mvT hZ (hw _ (List.mem_of_getElem? (i := 48) rfl))) (notFace_of_selects (args := #[]) (mvT hZ (hw _ (List.mem_of_getElem? (i := 50) rfl)))) (mvT hZ (hw _ (List.mem_of_getElem? (i := 50) rfl))) (mvT hZ (hw _ (List.mem_of_getElem? (i := 49) rfl))) (by decide) (backOf (W := 0) (rm9 l Z a0 hw [] cc4 ar7 ka7 za7 [p6] T9.heap n0 (Nat.le_trans (Nat.le_trans (Nat.le_trans (Nat.le_trans (Nat.le_trans Z0 E2.1) K3.1) K4.1) K7.1) K9.1) (IK10)) hZ (hw _ (List.mem_of_getElem? (i := 51) rfl)) (hw _ (List.mem_of_getElem? (i := 2) rfl)) (by decide) (by decide)) q11a q11c (g := (mkF m 104 #[.val (.int p1), .val (.int p2), .val (.int p3), .val (.int p4), .val (.int p5), .val (.int p6), .val (.int (0 : Int32)), .val (.int (p6 ^^^ (-1 : Int32))), .val (.ref b2), .val (.ref cc4), .val (.int (1 : Int32))] [(.ref cc4)])) rfl (by rw [hml]; rfl) (Steps.refl _) (argsL := []) (rest := []) (lenOf pd_5 rfl) rfl (by show 2 * 0 + _ ≤ _; exact Nat.le_of_eq rfl) (hb hby at_104) (fun _ _ => ⟨rfl, rfl, (by decide : 7 + 0 ≤ _), (by decide : 44 + 0 ≤ _)⟩)
    dsimp only [Pt.U, Pt.locs, Pt.cells, Pt.slots] at X11 l11 y11 z11 st11 hQ11
    subst l11 y11 z11
    obtain ⟨rfl, N11q, e11⟩ := hQ11
    have N11 := Fr.app N9 N11q
    replace e11 := e11
    refine Goes.tr (U' := T11.setTop (mkF m 107 #[.val (.int p1), .val (.int p2), .val (.int p3), .val (.int p4), .val (.int p5), .val (.int p6), .val (.int (0 : Int32)), .val (.int (p6 ^^^ (-1 : Int32))), .val (.ref b2), .val (.ref cc4), .val (.int (1 : Int32))] [(.int (1 : Int32))])) st11 ?_
    refine Goes.st (U' := T11.setTop (mkF m 109 #[.val (.int p1), .val (.int p2), .val (.int p3), .val (.int p4), .val (.int p5), .val (.int p6), .val (.int (0 : Int32)), .val (.int (p6 ^^^ (-1 : Int32))), .val (.ref b2), .val (.ref cc4), .val (.int (1 : Int32))] [(.int (0 : Int32)), (.int (1 : Int32))])) (fun t k => XS.iload X11.here hx rfl (hb hby at_107) rfl k) ?_
    refine Goes.st (U' := T11.setTop (mkF m 110 #[.val (.int p1), .val (.int p2), .val (.int p3), .val (.int p4), .val (.int p5), .val (.int p6), .val (.int (0 : Int32)), .val (.int (p6 ^^^ (-1 : Int32))), .val (.ref b2), .val (.ref cc4), .val (.int (1 : Int32))] [(.int (1 : Int32)), (.int (0 : Int32)), (.int (1 : Int32))])) (fun t k => XS.iconst X11.here hx rfl (hb hby at_109) k) ?_
    refine Goes.st (U' := T11.setTop (mkF m 111 #[.val (.int p1), .val (.int p2), .val (.int p3), .val (.int p4), .val (.int p5), .val (.int p6), .val (.int (0 : Int32)), .val (.int (p6 ^^^ (-1 : Int32))), .val (.ref b2), .val (.ref cc4), .val (.int (1 : Int32))] [(.int (1 : Int32)), (.int (1 : Int32))])) (fun t k => XS.iadd X11.here hx rfl (hb hby at_110) rfl k) ?_
    refine Goes.st (U' := T11.setTop (mkF m 114 #[.val (.int p1), .val (.int p2), .val (.int p3), .val (.int p4), .val (.int p5), .val (.int p6), .val (.int (0 : Int32)), .val (.int (p6 ^^^ (-1 : Int32))), .val (.ref b2), .val (.ref cc4), .val (.int (1 : Int32))] [])) (fun t k => XS.icmpNo X11.here hx rfl (hb hby at_111) rfl (teq (rfl : (1 : Int32) = (1 : Int32))).2 k) ?_
    refine Goes.st (U' := T11.setTop (mkF m 116 #[.val (.int p1), .val (.int p2), .val (.int p3), .val (.int p4), .val (.int p5), .val (.int p6), .val (.int (0 : Int32)), .val (.int (p6 ^^^ (-1 : Int32))), .val (.ref b2), .val (.ref cc4), .val (.int (1 : Int32))] [(.ref b2)])) (fun t k => XS.aload X11.here hx rfl (hb hby at_114) rfl rfl k) ?_
    obtain ⟨cq12, kq12, q12a, q12b, q12c⟩ := isOf hZ e11 I9.1
    obtain ⟨_, _, ⟨T12, L12, k12, n12⟩, -, X12, ⟨Lc12, hQ12, l12, y12, z12⟩, st12⟩ := X11.virtualBack hx (y := (⟨"com/example/cosine/cosine/index/IntList", "size", "()I"⟩ : MethodName)) (z := (⟨"com/example/cosine/cosine/index/IntList", "size", "()I"⟩ : MethodName)) hown (mvT hZ (hw _ (List.mem_of_getElem? (i := 47) rfl))) (mvT hZ (hw _ (List.mem_of_getElem? (i := 48) rfl))) (notFace_of_selects (args := #[]) (mvT hZ (hw _ (List.mem_of_getElem? (i := 50) rfl)))) (mvT hZ (hw _ (List.mem_of_getElem? (i := 50) rfl))) (mvT hZ (hw _ (List.mem_of_getElem? (i := 49) rfl))) (by decide) (backOf (W := 0) (rm9 l Z a0 hw [] b2 ar9 ka9 za9 [(p6 ^^^ (-1 : Int32))] T9.heap n0 (Nat.le_trans (Nat.le_trans (Nat.le_trans (Nat.le_trans (Nat.le_trans Z0 E2.1) K3.1) K4.1) K7.1) K9.1) (I9)) hZ (hw _ (List.mem_of_getElem? (i := 51) rfl)) (hw _ (List.mem_of_getElem? (i := 2) rfl)) (by decide) (by decide)) q12a q12c (g := (mkF m 116 #[.val (.int p1), .val (.int p2), .val (.int p3), .val (.int p4), .val (.int p5), .val (.int p6), .val (.int (0 : Int32)), .val (.int (p6 ^^^ (-1 : Int32))), .val (.ref b2), .val (.ref cc4), .val (.int (1 : Int32))] [(.ref b2)])) rfl (by rw [hml]; rfl) (Steps.refl _) (argsL := []) (rest := []) (lenOf pd_5 rfl) rfl (by show 2 * 0 + _ ≤ _; exact Nat.le_of_eq rfl) (hb hby at_116) (fun _ _ => ⟨rfl, e11, (by decide : 7 + 0 ≤ _), (by decide : 44 + 0 ≤ _)⟩)
    dsimp only [Pt.U, Pt.locs, Pt.cells, Pt.slots] at X12 l12 y12 z12 st12 hQ12
    subst l12 y12 z12
    obtain ⟨rfl, N12q, e12⟩ := hQ12
    have N12 := Fr.app N11 N12q
    replace e12 := e12
    refine Goes.tr (U' := T12.setTop (mkF m 119 #[.val (.int p1), .val (.int p2), .val (.int p3), .val (.int p4), .val (.int p5), .val (.int p6), .val (.int (0 : Int32)), .val (.int (p6 ^^^ (-1 : Int32))), .val (.ref b2), .val (.ref cc4), .val (.int (1 : Int32))] [(.int (1 : Int32))])) st12 ?_
    refine Goes.st (U' := T12.setTop (mkF m 121 #[.val (.int p1), .val (.int p2), .val (.int p3), .val (.int p4), .val (.int p5), .val (.int p6), .val (.int (0 : Int32)), .val (.int (p6 ^^^ (-1 : Int32))), .val (.ref b2), .val (.ref cc4), .val (.int (1 : Int32))] [(.int (0 : Int32)), (.int (1 : Int32))])) (fun t k => XS.iload X12.here hx rfl (hb hby at_119) rfl k) ?_
    refine Goes.st (U' := T12.setTop (mkF m 122 #[.val (.int p1), .val (.int p2), .val (.int p3), .val (.int p4), .val (.int p5), .val (.int p6), .val (.int (0 : Int32)), .val (.int (p6 ^^^ (-1 : Int32))), .val (.ref b2), .val (.ref cc4), .val (.int (1 : Int32))] [(.int (1 : Int32)), (.int (0 : Int32)), (.int (1 : Int32))])) (fun t k => XS.iconst X12.here hx rfl (hb hby at_121) k) ?_
    refine Goes.st (U' := T12.setTop (mkF m 123 #[.val (.int p1), .val (.int p2), .val (.int p3), .val (.int p4), .val (.int p5), .val (.int p6), .val (.int (0 : Int32)), .val (.int (p6 ^^^ (-1 : Int32))), .val (.ref b2), .val (.ref cc4), .val (.int (1 : Int32))] [(.int (1 : Int32)), (.int (1 : Int32))])) (fun t k => XS.iadd X12.here hx rfl (hb hby at_122) rfl k) ?_
    refine Goes.st (U' := T12.setTop (mkF m 126 #[.val (.int p1), .val (.int p2), .val (.int p3), .val (.int p4), .val (.int p5), .val (.int p6), .val (.int (0 : Int32)), .val (.int (p6 ^^^ (-1 : Int32))), .val (.ref b2), .val (.ref cc4), .val (.int (1 : Int32))] [])) (fun t k => XS.icmpNo X12.here hx rfl (hb hby at_123) rfl (teq (rfl : (1 : Int32) = (1 : Int32))).2 k) ?_
    refine Goes.st (U' := T12.setTop (mkF m 127 #[.val (.int p1), .val (.int p2), .val (.int p3), .val (.int p4), .val (.int p5), .val (.int p6), .val (.int (0 : Int32)), .val (.int (p6 ^^^ (-1 : Int32))), .val (.ref b2), .val (.ref cc4), .val (.int (1 : Int32))] [(.int (1 : Int32))])) (fun t k => XS.iconst X12.here hx rfl (hb hby at_126) k) ?_
    refine Goes.st (U' := T12.setTop (mkF m 131 #[.val (.int p1), .val (.int p2), .val (.int p3), .val (.int p4), .val (.int p5), .val (.int p6), .val (.int (0 : Int32)), .val (.int (p6 ^^^ (-1 : Int32))), .val (.ref b2), .val (.ref cc4), .val (.int (1 : Int32))] [(.int (1 : Int32))])) (fun t k => XS.goto X12.here hx rfl (pc0 := 127) (pc' := 131) rfl (hb hby at_127) (by decide) (by decide) k) ?_
    refine Goes.st (U' := T12.setTop (mkF m 133 #[.val (.int p1), .val (.int p2), .val (.int p3), .val (.int p4), .val (.int p5), .val (.int p6), .val (.int (0 : Int32)), .val (.int (p6 ^^^ (-1 : Int32))), .val (.ref b2), .val (.ref cc4), .val (.int (1 : Int32))] [])) (fun t k => XS.istore X12.here hx rfl (hb hby at_131) rfl (l' := #[.val (.int p1), .val (.int p2), .val (.int p3), .val (.int p4), .val (.int p5), .val (.int p6), .val (.int (0 : Int32)), .val (.int (p6 ^^^ (-1 : Int32))), .val (.ref b2), .val (.ref cc4), .val (.int (1 : Int32))]) rfl k) ?_
    refine Goes.st (U' := T12.setTop (mkF m 135 #[.val (.int p1), .val (.int p2), .val (.int p3), .val (.int p4), .val (.int p5), .val (.int p6), .val (.int (0 : Int32)), .val (.int (p6 ^^^ (-1 : Int32))), .val (.ref b2), .val (.ref cc4), .val (.int (1 : Int32))] [(.int (1 : Int32))])) (fun t k => XS.iload X12.here hx rfl (hb hby at_133) rfl k) ?_
    refine Goes.st (U' := T12.setTop (mkF m 138 #[.val (.int p1), .val (.int p2), .val (.int p3), .val (.int p4), .val (.int p5), .val (.int p6), .val (.int (0 : Int32)), .val (.int (p6 ^^^ (-1 : Int32))), .val (.ref b2), .val (.ref cc4), .val (.int (1 : Int32))] [])) (fun t k => XS.ifNo X12.here hx rfl (hb hby at_135) rfl ((if0 _ _).trans (feq (by decide : ¬ ((1 : Int32) = (0 : Int32)))).1) k) ?_
    refine Goes.st (U' := T12.setTop (mkF m 140 #[.val (.int p1), .val (.int p2), .val (.int p3), .val (.int p4), .val (.int p5), .val (.int p6), .val (.int (0 : Int32)), .val (.int (p6 ^^^ (-1 : Int32))), .val (.ref b2), .val (.ref cc4), .val (.int (1 : Int32))] [(.ref cc4)])) (fun t k => XS.aload X12.here hx rfl (hb hby at_138) rfl rfl k) ?_
    refine Goes.st (U' := T12.setTop (mkF m 142 #[.val (.int p1), .val (.int p2), .val (.int p3), .val (.int p4), .val (.int p5), .val (.int p6), .val (.int (0 : Int32)), .val (.int (p6 ^^^ (-1 : Int32))), .val (.ref b2), .val (.ref cc4), .val (.int (1 : Int32))] [(.int (0 : Int32)), (.ref cc4)])) (fun t k => XS.iload X12.here hx rfl (hb hby at_140) rfl k) ?_
    obtain ⟨cq13, kq13, q13a, q13b, q13c⟩ := isOf hZ e12 (I7.1.keep K9)
    obtain ⟨_, _, ⟨T13, L13, k13, n13⟩, -, X13, ⟨Lc13, hQ13, l13, y13, z13⟩, st13⟩ := X12.virtualBack hx (y := (⟨"com/example/cosine/cosine/index/IntList", "get", "(I)I"⟩ : MethodName)) (z := (⟨"com/example/cosine/cosine/index/IntList", "get", "(I)I"⟩ : MethodName)) hown (mvT hZ (hw _ (List.mem_of_getElem? (i := 52) rfl))) (mvT hZ (hw _ (List.mem_of_getElem? (i := 53) rfl))) (notFace_of_selects (args := #[]) (mvT hZ (hw _ (List.mem_of_getElem? (i := 55) rfl)))) (mvT hZ (hw _ (List.mem_of_getElem? (i := 55) rfl))) (mvT hZ (hw _ (List.mem_of_getElem? (i := 54) rfl))) (by decide) (backOf (W := 0) (rm10 l Z a0 hw [] cc4 (0 : Int32) ar7 ka7 za7 [p6] p6 T9.heap n0 (Nat.le_trans (Nat.le_trans (Nat.le_trans (Nat.le_trans (Nat.le_trans Z0 E2.1) K3.1) K4.1) K7.1) K9.1) (IK10) ((by decide)) ((Nat.le_of_ble_eq_true rfl)) (rfl)) hZ (hw _ (List.mem_of_getElem? (i := 56) rfl)) (hw _ (List.mem_of_getElem? (i := 2) rfl)) (by decide) (by decide)) q13a q13c (g := (mkF m 142 #[.val (.int p1), .val (.int p2), .val (.int p3), .val (.int p4), .val (.int p5), .val (.int p6), .val (.int (0 : Int32)), .val (.int (p6 ^^^ (-1 : Int32))), .val (.ref b2), .val (.ref cc4), .val (.int (1 : Int32))] [(.int (0 : Int32)), (.ref cc4)])) rfl (by rw [hml]; rfl) (Steps.refl _) (argsL := [(.int (0 : Int32))]) (rest := []) (lenOf pd_6 rfl) rfl (by show 2 * 0 + _ ≤ _; exact Nat.le_of_eq rfl) (hb hby at_142) (fun _ _ => ⟨rfl, e12, (by decide : 7 + 0 ≤ _), (by decide : 44 + 0 ≤ _)⟩)
    dsimp only [Pt.U, Pt.locs, Pt.cells, Pt.slots] at X13 l13 y13 z13 st13 hQ13
    subst l13 y13 z13
    obtain ⟨rfl, N13q, e13⟩ := hQ13
    have N13 := Fr.app N12 N13q
    replace e13 := e13
    refine Goes.tr (U' := T13.setTop (mkF m 145 #[.val (.int p1), .val (.int p2), .val (.int p3), .val (.int p4), .val (.int p5), .val (.int p6), .val (.int (0 : Int32)), .val (.int (p6 ^^^ (-1 : Int32))), .val (.ref b2), .val (.ref cc4), .val (.int (1 : Int32))] [(.int p6)])) st13 ?_
    refine Goes.st (U' := T13.setTop (mkF m 147 #[.val (.int p1), .val (.int p2), .val (.int p3), .val (.int p4), .val (.int p5), .val (.int p6), .val (.int (0 : Int32)), .val (.int (p6 ^^^ (-1 : Int32))), .val (.ref b2), .val (.ref cc4), .val (.int (1 : Int32))] [(.int p6), (.int p6)])) (fun t k => XS.iload X13.here hx rfl (hb hby at_145) rfl k) ?_
    refine Goes.st (U' := T13.setTop (mkF m 150 #[.val (.int p1), .val (.int p2), .val (.int p3), .val (.int p4), .val (.int p5), .val (.int p6), .val (.int (0 : Int32)), .val (.int (p6 ^^^ (-1 : Int32))), .val (.ref b2), .val (.ref cc4), .val (.int (1 : Int32))] [])) (fun t k => XS.icmpNo X13.here hx rfl (hb hby at_147) rfl (teq (rfl : p6 = p6)).2 k) ?_
    refine Goes.st (U' := T13.setTop (mkF m 152 #[.val (.int p1), .val (.int p2), .val (.int p3), .val (.int p4), .val (.int p5), .val (.int p6), .val (.int (0 : Int32)), .val (.int (p6 ^^^ (-1 : Int32))), .val (.ref b2), .val (.ref cc4), .val (.int (1 : Int32))] [(.ref b2)])) (fun t k => XS.aload X13.here hx rfl (hb hby at_150) rfl rfl k) ?_
    refine Goes.st (U' := T13.setTop (mkF m 154 #[.val (.int p1), .val (.int p2), .val (.int p3), .val (.int p4), .val (.int p5), .val (.int p6), .val (.int (0 : Int32)), .val (.int (p6 ^^^ (-1 : Int32))), .val (.ref b2), .val (.ref cc4), .val (.int (1 : Int32))] [(.int (0 : Int32)), (.ref b2)])) (fun t k => XS.iload X13.here hx rfl (hb hby at_152) rfl k) ?_
    obtain ⟨cq14, kq14, q14a, q14b, q14c⟩ := isOf hZ e13 I9.1
    obtain ⟨_, _, ⟨T14, L14, k14, n14⟩, -, X14, ⟨Lc14, hQ14, l14, y14, z14⟩, st14⟩ := X13.virtualBack hx (y := (⟨"com/example/cosine/cosine/index/IntList", "get", "(I)I"⟩ : MethodName)) (z := (⟨"com/example/cosine/cosine/index/IntList", "get", "(I)I"⟩ : MethodName)) hown (mvT hZ (hw _ (List.mem_of_getElem? (i := 52) rfl))) (mvT hZ (hw _ (List.mem_of_getElem? (i := 53) rfl))) (notFace_of_selects (args := #[]) (mvT hZ (hw _ (List.mem_of_getElem? (i := 55) rfl)))) (mvT hZ (hw _ (List.mem_of_getElem? (i := 55) rfl))) (mvT hZ (hw _ (List.mem_of_getElem? (i := 54) rfl))) (by decide) (backOf (W := 0) (rm10 l Z a0 hw [] b2 (0 : Int32) ar9 ka9 za9 [(p6 ^^^ (-1 : Int32))] (p6 ^^^ (-1 : Int32)) T9.heap n0 (Nat.le_trans (Nat.le_trans (Nat.le_trans (Nat.le_trans (Nat.le_trans Z0 E2.1) K3.1) K4.1) K7.1) K9.1) (I9) ((by decide)) ((Nat.le_of_ble_eq_true rfl)) (rfl)) hZ (hw _ (List.mem_of_getElem? (i := 56) rfl)) (hw _ (List.mem_of_getElem? (i := 2) rfl)) (by decide) (by decide)) q14a q14c (g := (mkF m 154 #[.val (.int p1), .val (.int p2), .val (.int p3), .val (.int p4), .val (.int p5), .val (.int p6), .val (.int (0 : Int32)), .val (.int (p6 ^^^ (-1 : Int32))), .val (.ref b2), .val (.ref cc4), .val (.int (1 : Int32))] [(.int (0 : Int32)), (.ref b2)])) rfl (by rw [hml]; rfl) (Steps.refl _) (argsL := [(.int (0 : Int32))]) (rest := []) (lenOf pd_6 rfl) rfl (by show 2 * 0 + _ ≤ _; exact Nat.le_of_eq rfl) (hb hby at_154) (fun _ _ => ⟨rfl, e13, (by decide : 7 + 0 ≤ _), (by decide : 44 + 0 ≤ _)⟩)
    dsimp only [Pt.U, Pt.locs, Pt.cells, Pt.slots] at X14 l14 y14 z14 st14 hQ14
    subst l14 y14 z14
    obtain ⟨rfl, N14q, e14⟩ := hQ14
    have N14 := Fr.app N13 N14q
    replace e14 := e14
    refine Goes.tr (U' := T14.setTop (mkF m 157 #[.val (.int p1), .val (.int p2), .val (.int p3), .val (.int p4), .val (.int p5), .val (.int p6), .val (.int (0 : Int32)), .val (.int (p6 ^^^ (-1 : Int32))), .val (.ref b2), .val (.ref cc4), .val (.int (1 : Int32))] [(.int (p6 ^^^ (-1 : Int32)))])) st14 ?_
    refine Goes.st (U' := T14.setTop (mkF m 159 #[.val (.int p1), .val (.int p2), .val (.int p3), .val (.int p4), .val (.int p5), .val (.int p6), .val (.int (0 : Int32)), .val (.int (p6 ^^^ (-1 : Int32))), .val (.ref b2), .val (.ref cc4), .val (.int (1 : Int32))] [(.int (p6 ^^^ (-1 : Int32))), (.int (p6 ^^^ (-1 : Int32)))])) (fun t k => XS.iload X14.here hx rfl (hb hby at_157) rfl k) ?_
    refine Goes.st (U' := T14.setTop (mkF m 162 #[.val (.int p1), .val (.int p2), .val (.int p3), .val (.int p4), .val (.int p5), .val (.int p6), .val (.int (0 : Int32)), .val (.int (p6 ^^^ (-1 : Int32))), .val (.ref b2), .val (.ref cc4), .val (.int (1 : Int32))] [])) (fun t k => XS.icmpNo X14.here hx rfl (hb hby at_159) rfl (teq (rfl : (p6 ^^^ (-1 : Int32)) = (p6 ^^^ (-1 : Int32)))).2 k) ?_
    refine Goes.st (U' := T14.setTop (mkF m 163 #[.val (.int p1), .val (.int p2), .val (.int p3), .val (.int p4), .val (.int p5), .val (.int p6), .val (.int (0 : Int32)), .val (.int (p6 ^^^ (-1 : Int32))), .val (.ref b2), .val (.ref cc4), .val (.int (1 : Int32))] [(.int (1 : Int32))])) (fun t k => XS.iconst X14.here hx rfl (hb hby at_162) k) ?_
    refine Goes.st (U' := T14.setTop (mkF m 167 #[.val (.int p1), .val (.int p2), .val (.int p3), .val (.int p4), .val (.int p5), .val (.int p6), .val (.int (0 : Int32)), .val (.int (p6 ^^^ (-1 : Int32))), .val (.ref b2), .val (.ref cc4), .val (.int (1 : Int32))] [(.int (1 : Int32))])) (fun t k => XS.goto X14.here hx rfl (pc0 := 163) (pc' := 167) rfl (hb hby at_163) (by decide) (by decide) k) ?_
    refine Goes.st (U' := T14.setTop (mkF m 169 #[.val (.int p1), .val (.int p2), .val (.int p3), .val (.int p4), .val (.int p5), .val (.int p6), .val (.int (0 : Int32)), .val (.int (p6 ^^^ (-1 : Int32))), .val (.ref b2), .val (.ref cc4), .val (.int (1 : Int32))] [])) (fun t k => XS.istore X14.here hx rfl (hb hby at_167) rfl (l' := #[.val (.int p1), .val (.int p2), .val (.int p3), .val (.int p4), .val (.int p5), .val (.int p6), .val (.int (0 : Int32)), .val (.int (p6 ^^^ (-1 : Int32))), .val (.ref b2), .val (.ref cc4), .val (.int (1 : Int32))]) rfl k) ?_
    refine Goes.st (U' := T14.setTop (mkF m 171 #[.val (.int p1), .val (.int p2), .val (.int p3), .val (.int p4), .val (.int p5), .val (.int p6), .val (.int (0 : Int32)), .val (.int (p6 ^^^ (-1 : Int32))), .val (.ref b2), .val (.ref cc4), .val (.int (1 : Int32))] [(.int (0 : Int32))])) (fun t k => XS.iload X14.here hx rfl (hb hby at_169) rfl k) ?_
    refine Goes.st (U' := T14.setTop (mkF m 196 #[.val (.int p1), .val (.int p2), .val (.int p3), .val (.int p4), .val (.int p5), .val (.int p6), .val (.int (0 : Int32)), .val (.int (p6 ^^^ (-1 : Int32))), .val (.ref b2), .val (.ref cc4), .val (.int (1 : Int32))] [])) (fun t k => XS.ifYes X14.here hx rfl (pc0 := 171) (pc' := 196) rfl (hb hby at_171) rfl ((if0 _ _).trans (flt (by decide : ¬ ((0 : Int32) < (0 : Int32)))).2.2.2) (by decide) (by decide) k) ?_
    refine Goes.st (U' := T14.setTop (mkF m 198 #[.val (.int p1), .val (.int p2), .val (.int p3), .val (.int p4), .val (.int p5), .val (.int p6), .val (.int (0 : Int32)), .val (.int (p6 ^^^ (-1 : Int32))), .val (.ref b2), .val (.ref cc4), .val (.int (1 : Int32))] [(.int (0 : Int32))])) (fun t k => XS.iload X14.here hx rfl (hb hby at_196) rfl k) ?_
    refine Goes.st (U' := T14.setTop (mkF m 199 #[.val (.int p1), .val (.int p2), .val (.int p3), .val (.int p4), .val (.int p5), .val (.int p6), .val (.int (0 : Int32)), .val (.int (p6 ^^^ (-1 : Int32))), .val (.ref b2), .val (.ref cc4), .val (.int (1 : Int32))] [(.int (1 : Int32)), (.int (0 : Int32))])) (fun t k => XS.iconst X14.here hx rfl (hb hby at_198) k) ?_
    refine Goes.st (U' := T14.setTop (mkF m 224 #[.val (.int p1), .val (.int p2), .val (.int p3), .val (.int p4), .val (.int p5), .val (.int p6), .val (.int (0 : Int32)), .val (.int (p6 ^^^ (-1 : Int32))), .val (.ref b2), .val (.ref cc4), .val (.int (1 : Int32))] [])) (fun t k => XS.icmpYes X14.here hx rfl (pc0 := 199) (pc' := 224) rfl (hb hby at_199) rfl (flt (by decide : ¬ ((1 : Int32) < (0 : Int32)))).2.2.2 (by decide) (by decide) k) ?_
    refine Goes.st (U' := T14.setTop (mkF m 226 #[.val (.int p1), .val (.int p2), .val (.int p3), .val (.int p4), .val (.int p5), .val (.int p6), .val (.int (0 : Int32)), .val (.int (p6 ^^^ (-1 : Int32))), .val (.ref b2), .val (.ref cc4), .val (.int (1 : Int32))] [(.int (0 : Int32))])) (fun t k => XS.iload X14.here hx rfl (hb hby at_224) rfl k) ?_
    refine Goes.st (U' := T14.setTop (mkF m 227 #[.val (.int p1), .val (.int p2), .val (.int p3), .val (.int p4), .val (.int p5), .val (.int p6), .val (.int (0 : Int32)), .val (.int (p6 ^^^ (-1 : Int32))), .val (.ref b2), .val (.ref cc4), .val (.int (1 : Int32))] [(.int (2 : Int32)), (.int (0 : Int32))])) (fun t k => XS.iconst X14.here hx rfl (hb hby at_226) k) ?_
    refine Goes.st (U' := T14.setTop (mkF m 253 #[.val (.int p1), .val (.int p2), .val (.int p3), .val (.int p4), .val (.int p5), .val (.int p6), .val (.int (0 : Int32)), .val (.int (p6 ^^^ (-1 : Int32))), .val (.ref b2), .val (.ref cc4), .val (.int (1 : Int32))] [])) (fun t k => XS.icmpYes X14.here hx rfl (pc0 := 227) (pc' := 253) rfl (hb hby at_227) rfl (flt (by decide : ¬ ((2 : Int32) < (0 : Int32)))).2.2.2 (by decide) (by decide) k) ?_
    refine Goes.st (U' := T14.setTop (mkF m 255 #[.val (.int p1), .val (.int p2), .val (.int p3), .val (.int p4), .val (.int p5), .val (.int p6), .val (.int (0 : Int32)), .val (.int (p6 ^^^ (-1 : Int32))), .val (.ref b2), .val (.ref cc4), .val (.int (1 : Int32))] [(.int (1 : Int32))])) (fun t k => XS.iload X14.here hx rfl (hb hby at_253) rfl k) ?_
    refine Goes.retZ X14 hx (BodyLoose.notSynchronized Bd) Bd.returns (hb hby at_255) rfl (by decide) (by decide) ?_
    show Q0 Z p1 p2 p3 p4 p5 p6 h0 n0 _ T14.heap _
    rw [e14]
    exact ⟨rfl, N14⟩
  · skip
    refine Goes.st (U' := s₁.setTop (mkF m 5 #[.val (.int p1), .val (.int p2), .val (.int p3), .val (.int p4), .val (.int p5), .val (.int p6), .val (.int (1 : Int32)), .unset, .unset, .unset, .unset] [])) (fun t k => XS.istore X0.here hx rfl (hb hby at_3) rfl (l' := #[.val (.int p1), .val (.int p2), .val (.int p3), .val (.int p4), .val (.int p5), .val (.int p6), .val (.int (1 : Int32)), .unset, .unset, .unset, .unset]) rfl k) ?_
    refine Goes.st (U' := s₁.setTop (mkF m 7 #[.val (.int p1), .val (.int p2), .val (.int p3), .val (.int p4), .val (.int p5), .val (.int p6), .val (.int (1 : Int32)), .unset, .unset, .unset, .unset] [(.int p6)])) (fun t k => XS.iload X0.here hx rfl (hb hby at_5) rfl k) ?_
    refine Goes.st (U' := s₁.setTop (mkF m 8 #[.val (.int p1), .val (.int p2), .val (.int p3), .val (.int p4), .val (.int p5), .val (.int p6), .val (.int (1 : Int32)), .unset, .unset, .unset, .unset] [(.int (-1 : Int32)), (.int p6)])) (fun t k => XS.iconst X0.here hx rfl (hb hby at_7) k) ?_
    refine Goes.st (U' := s₁.setTop (mkF m 9 #[.val (.int p1), .val (.int p2), .val (.int p3), .val (.int p4), .val (.int p5), .val (.int p6), .val (.int (1 : Int32)), .unset, .unset, .unset, .unset] [(.int (p6 ^^^ (-1 : Int32)))])) (fun t k => XS.ixor X0.here hx rfl (hb hby at_8) rfl k) ?_
    refine Goes.st (U' := s₁.setTop (mkF m 11 #[.val (.int p1), .val (.int p2), .val (.int p3), .val (.int p4), .val (.int p5), .val (.int p6), .val (.int (1 : Int32)), .val (.int (p6 ^^^ (-1 : Int32))), .unset, .unset, .unset] [])) (fun t k => XS.istore X0.here hx rfl (hb hby at_9) rfl (l' := #[.val (.int p1), .val (.int p2), .val (.int p3), .val (.int p4), .val (.int p5), .val (.int p6), .val (.int (1 : Int32)), .val (.int (p6 ^^^ (-1 : Int32))), .unset, .unset, .unset]) rfl k) ?_
    obtain ⟨T15, h15, X15, e15, E15, A15, D15, -, st15⟩ := newO X0 hx hZ hown (hw _ (List.mem_of_getElem? (i := 0) rfl)) (hw _ (List.mem_of_getElem? (i := 1) rfl)) (hw _ (List.mem_of_getElem? (i := 2) rfl)) e0 (g := (mkF m 11 #[.val (.int p1), .val (.int p2), .val (.int p3), .val (.int p4), .val (.int p5), .val (.int p6), .val (.int (1 : Int32)), .val (.int (p6 ^^^ (-1 : Int32))), .unset, .unset, .unset] [])) rfl (hb hby at_11) (by decide) (by decide)
    obtain ⟨b15, g15⟩ : ∃ z, z = h0.size := ⟨_, rfl⟩
    rw [← g15] at A15 D15 st15
    have g_b15 : n0 ≤ b15 := Nat.le_trans Z0 (Nat.le_of_eq g15.symm)
    have F_values_b15 : Fld Z h15 b15 "com/example/cosine/cosine/index/IntList" "values" "[I" .null := D15 (Or.inl (hw _ (List.mem_of_getElem? (i := 11) rfl))) (ty := (.array .int)) (by decide)
    have F_size_b15 : Fld Z h15 b15 "com/example/cosine/cosine/index/IntList" "size" "I" (.int (0 : Int32)) := D15 (Or.inl (hw _ (List.mem_of_getElem? (i := 18) rfl))) (ty := .int) (by decide)
    refine Goes.st (U' := T15.setTop (mkF m 14 #[.val (.int p1), .val (.int p2), .val (.int p3), .val (.int p4), .val (.int p5), .val (.int p6), .val (.int (1 : Int32)), .val (.int (p6 ^^^ (-1 : Int32))), .unset, .unset, .unset] [(.ref b15)])) (fun t k => st15 t k) ?_
    refine Goes.st (U' := T15.setTop (mkF m 15 #[.val (.int p1), .val (.int p2), .val (.int p3), .val (.int p4), .val (.int p5), .val (.int p6), .val (.int (1 : Int32)), .val (.int (p6 ^^^ (-1 : Int32))), .unset, .unset, .unset] [(.ref b15), (.ref b15)])) (fun t k => XS.dup X15.here hx rfl (hb hby at_14) rfl rfl k) ?_
    refine Goes.st (U' := T15.setTop (mkF m 16 #[.val (.int p1), .val (.int p2), .val (.int p3), .val (.int p4), .val (.int p5), .val (.int p6), .val (.int (1 : Int32)), .val (.int (p6 ^^^ (-1 : Int32))), .unset, .unset, .unset] [(.int p1), (.ref b15), (.ref b15)])) (fun t k => XS.iloadN X15.here hx rfl (hb hby at_15) rfl k) ?_
    refine Goes.st (U' := T15.setTop (mkF m 17 #[.val (.int p1), .val (.int p2), .val (.int p3), .val (.int p4), .val (.int p5), .val (.int p6), .val (.int (1 : Int32)), .val (.int (p6 ^^^ (-1 : Int32))), .unset, .unset, .unset] [(.int (3 : Int32)), (.int p1), (.ref b15), (.ref b15)])) (fun t k => XS.iconst X15.here hx rfl (hb hby at_16) k) ?_
    refine Goes.st (U' := T15.setTop (mkF m 18 #[.val (.int p1), .val (.int p2), .val (.int p3), .val (.int p4), .val (.int p5), .val (.int p6), .val (.int (1 : Int32)), .val (.int (p6 ^^^ (-1 : Int32))), .unset, .unset, .unset] [(.int (p1 &&& (3 : Int32))), (.ref b15), (.ref b15)])) (fun t k => XS.iand X15.here hx rfl (hb hby at_17) rfl k) ?_
    obtain ⟨_, _, ⟨T16, L16, k16, n16⟩, -, X16, ⟨Lc16, hQ16, l16, y16, z16⟩, st16⟩ := X15.specialBack hx (y := (⟨"com/example/cosine/cosine/index/IntList", "<init>", "(I)V"⟩ : MethodName)) rfl hown (mvT hZ (hw _ (List.mem_of_getElem? (i := 3) rfl))) (mvT hZ (hw _ (List.mem_of_getElem? (i := 4) rfl))) (mvT hZ (hw _ (List.mem_of_getElem? (i := 5) rfl))) (by decide) (backOf (W := 1) (rm1 l Z a0 hw [] b15 (p1 &&& (3 : Int32)) h15 n0 (Nat.le_trans Z0 E15.1) (A15) (F_values_b15) (F_size_b15) (g_b15) ((own_cap p1).1) ((own_cap p1).2)) hZ (hw _ (List.mem_of_getElem? (i := 5) rfl)) (hw _ (List.mem_of_getElem? (i := 2) rfl)) (by decide) (by decide)) (g := (mkF m 18 #[.val (.int p1), .val (.int p2), .val (.int p3), .val (.int p4), .val (.int p5), .val (.int p6), .val (.int (1 : Int32)), .val (.int (p6 ^^^ (-1 : Int32))), .unset, .unset, .unset] [(.int (p1 &&& (3 : Int32))), (.ref b15), (.ref b15)])) rfl (by rw [hml]; rfl) (Steps.refl _) (a := b15) (argsL := [(.int (p1 &&& (3 : Int32)))]) (rest := [(.ref b15)]) (lenOf pd_3 rfl) rfl (by show 2 * 0 + _ ≤ _; exact Nat.le_of_eq rfl) (hb hby at_18) (fun _ _ => ⟨rfl, e15, (by decide : 1 + 1 ≤ _), (by decide : 2 + 8 ≤ _)⟩)
    dsimp only [Pt.U, Pt.locs, Pt.cells, Pt.slots] at X16 l16 y16 z16 st16 hQ16
    subst l16 y16 z16
    obtain ⟨rfl, N16q, K16, ar16, ka16, I16, g_ar16, u16⟩ := hQ16
    have N16 := Fr.app N0 N16q
    have ne_b15_ar16 : b15 ≠ ar16 := Nat.ne_of_lt (Nat.lt_of_lt_of_le A15.lt u16)
    refine Goes.tr (U' := T16.setTop (mkF m 21 #[.val (.int p1), .val (.int p2), .val (.int p3), .val (.int p4), .val (.int p5), .val (.int p6), .val (.int (1 : Int32)), .val (.int (p6 ^^^ (-1 : Int32))), .unset, .unset, .unset] [(.ref b15)])) st16 ?_
    refine Goes.st (U' := T16.setTop (mkF m 23 #[.val (.int p1), .val (.int p2), .val (.int p3), .val (.int p4), .val (.int p5), .val (.int p6), .val (.int (1 : Int32)), .val (.int (p6 ^^^ (-1 : Int32))), .val (.ref b15), .unset, .unset] [])) (fun t k => XS.astore X16.here hx rfl (hb hby at_21) rfl rfl (l' := #[.val (.int p1), .val (.int p2), .val (.int p3), .val (.int p4), .val (.int p5), .val (.int p6), .val (.int (1 : Int32)), .val (.int (p6 ^^^ (-1 : Int32))), .val (.ref b15), .unset, .unset]) rfl k) ?_
    refine Goes.st (U' := T16.setTop (mkF m 25 #[.val (.int p1), .val (.int p2), .val (.int p3), .val (.int p4), .val (.int p5), .val (.int p6), .val (.int (1 : Int32)), .val (.int (p6 ^^^ (-1 : Int32))), .val (.ref b15), .unset, .unset] [(.int (1 : Int32))])) (fun t k => XS.iload X16.here hx rfl (hb hby at_23) rfl k) ?_
    refine Goes.st (U' := T16.setTop (mkF m 28 #[.val (.int p1), .val (.int p2), .val (.int p3), .val (.int p4), .val (.int p5), .val (.int p6), .val (.int (1 : Int32)), .val (.int (p6 ^^^ (-1 : Int32))), .val (.ref b15), .unset, .unset] [])) (fun t k => XS.ifNo X16.here hx rfl (hb hby at_25) rfl ((if0 _ _).trans (tlt (by decide : (0 : Int32) < (1 : Int32))).2.2.2) k) ?_
    refine Goes.st (U' := T16.setTop (mkF m 30 #[.val (.int p1), .val (.int p2), .val (.int p3), .val (.int p4), .val (.int p5), .val (.int p6), .val (.int (1 : Int32)), .val (.int (p6 ^^^ (-1 : Int32))), .val (.ref b15), .unset, .unset] [(.ref b15)])) (fun t k => XS.aload X16.here hx rfl (hb hby at_28) rfl rfl k) ?_
    refine Goes.st (U' := T16.setTop (mkF m 31 #[.val (.int p1), .val (.int p2), .val (.int p3), .val (.int p4), .val (.int p5), .val (.int p6), .val (.int (1 : Int32)), .val (.int (p6 ^^^ (-1 : Int32))), .val (.ref b15), .unset, .unset] [(.int p3), (.ref b15)])) (fun t k => XS.iloadN X16.here hx rfl (hb hby at_30) rfl k) ?_
    obtain ⟨cq17, kq17, q17a, q17b, q17c⟩ := isOf hZ rfl I16.1
    obtain ⟨_, _, ⟨T17, L17, k17, n17⟩, -, X17, ⟨Lc17, hQ17, l17, y17, z17⟩, st17⟩ := X16.virtualBack hx (y := (⟨"com/example/cosine/cosine/index/IntList", "add", "(I)V"⟩ : MethodName)) (z := (⟨"com/example/cosine/cosine/index/IntList", "add", "(I)V"⟩ : MethodName)) hown (mvT hZ (hw _ (List.mem_of_getElem? (i := 12) rfl))) (mvT hZ (hw _ (List.mem_of_getElem? (i := 13) rfl))) (notFace_of_selects (args := #[]) (mvT hZ (hw _ (List.mem_of_getElem? (i := 15) rfl)))) (mvT hZ (hw _ (List.mem_of_getElem? (i := 15) rfl))) (mvT hZ (hw _ (List.mem_of_getElem? (i := 14) rfl))) (by decide) (backOf (W := 0) (rm3 l Z a0 hw [] b15 p3 ar16 ka16 (p1 &&& (3 : Int32)) [] T16.heap n0 (Nat.le_trans (Nat.le_trans Z0 E15.1) K16.1) (I16) ((Nat.le_of_ble_eq_true rfl)) (g_b15) (g_ar16)) hZ (hw _ (List.mem_of_getElem? (i := 16) rfl)) (hw _ (List.mem_of_getElem? (i := 2) rfl)) (by decide) (by decide)) q17a q17c (g := (mkF m 31 #[.val (.int p1), .val (.int p2), .val (.int p3), .val (.int p4), .val (.int p5), .val (.int p6), .val (.int (1 : Int32)), .val (.int (p6 ^^^ (-1 : Int32))), .val (.ref b15), .unset, .unset] [(.int p3), (.ref b15)])) rfl (by rw [hml]; rfl) (Steps.refl _) (argsL := [(.int p3)]) (rest := []) (lenOf pd_3 rfl) rfl (by show 2 * 0 + _ ≤ _; exact Nat.le_of_eq rfl) (hb hby at_31) (fun _ _ => ⟨rfl, rfl, (by decide : 2 + 1 ≤ _), (by decide : 10 + 8 ≤ _)⟩)
    dsimp only [Pt.U, Pt.locs, Pt.cells, Pt.slots] at X17 l17 y17 z17 st17 hQ17
    subst l17 y17 z17
    obtain ⟨rfl, N17q, K17, ar17, ka17, za17, I17, g_ar17, u17⟩ := hQ17
    have N17 := Fr.app N16 N17q
    have ne_b15_ar17 : b15 ≠ ar17 := I17.2.2.2.2.2.2.2.2
    refine Goes.tr (U' := T17.setTop (mkF m 34 #[.val (.int p1), .val (.int p2), .val (.int p3), .val (.int p4), .val (.int p5), .val (.int p6), .val (.int (1 : Int32)), .val (.int (p6 ^^^ (-1 : Int32))), .val (.ref b15), .unset, .unset] [])) st17 ?_
    refine Goes.st (U' := T17.setTop (mkF m 36 #[.val (.int p1), .val (.int p2), .val (.int p3), .val (.int p4), .val (.int p5), .val (.int p6), .val (.int (1 : Int32)), .val (.int (p6 ^^^ (-1 : Int32))), .val (.ref b15), .unset, .unset] [(.int (1 : Int32))])) (fun t k => XS.iload X17.here hx rfl (hb hby at_34) rfl k) ?_
    refine Goes.st (U' := T17.setTop (mkF m 37 #[.val (.int p1), .val (.int p2), .val (.int p3), .val (.int p4), .val (.int p5), .val (.int p6), .val (.int (1 : Int32)), .val (.int (p6 ^^^ (-1 : Int32))), .val (.ref b15), .unset, .unset] [(.int (1 : Int32)), (.int (1 : Int32))])) (fun t k => XS.iconst X17.here hx rfl (hb hby at_36) k) ?_
    refine Goes.st (U' := T17.setTop (mkF m 46 #[.val (.int p1), .val (.int p2), .val (.int p3), .val (.int p4), .val (.int p5), .val (.int p6), .val (.int (1 : Int32)), .val (.int (p6 ^^^ (-1 : Int32))), .val (.ref b15), .unset, .unset] [])) (fun t k => XS.icmpYes X17.here hx rfl (pc0 := 37) (pc' := 46) rfl (hb hby at_37) rfl (flt (by decide : ¬ ((1 : Int32) < (1 : Int32)))).2.2.2 (by decide) (by decide) k) ?_
    refine Goes.st (U' := T17.setTop (mkF m 48 #[.val (.int p1), .val (.int p2), .val (.int p3), .val (.int p4), .val (.int p5), .val (.int p6), .val (.int (1 : Int32)), .val (.int (p6 ^^^ (-1 : Int32))), .val (.ref b15), .unset, .unset] [(.int (1 : Int32))])) (fun t k => XS.iload X17.here hx rfl (hb hby at_46) rfl k) ?_
    refine Goes.st (U' := T17.setTop (mkF m 49 #[.val (.int p1), .val (.int p2), .val (.int p3), .val (.int p4), .val (.int p5), .val (.int p6), .val (.int (1 : Int32)), .val (.int (p6 ^^^ (-1 : Int32))), .val (.ref b15), .unset, .unset] [(.int (2 : Int32)), (.int (1 : Int32))])) (fun t k => XS.iconst X17.here hx rfl (hb hby at_48) k) ?_
    refine Goes.st (U' := T17.setTop (mkF m 59 #[.val (.int p1), .val (.int p2), .val (.int p3), .val (.int p4), .val (.int p5), .val (.int p6), .val (.int (1 : Int32)), .val (.int (p6 ^^^ (-1 : Int32))), .val (.ref b15), .unset, .unset] [])) (fun t k => XS.icmpYes X17.here hx rfl (pc0 := 49) (pc' := 59) rfl (hb hby at_49) rfl (flt (by decide : ¬ ((2 : Int32) < (1 : Int32)))).2.2.2 (by decide) (by decide) k) ?_
    refine Goes.st (U' := T17.setTop (mkF m 61 #[.val (.int p1), .val (.int p2), .val (.int p3), .val (.int p4), .val (.int p5), .val (.int p6), .val (.int (1 : Int32)), .val (.int (p6 ^^^ (-1 : Int32))), .val (.ref b15), .unset, .unset] [(.ref b15)])) (fun t k => XS.aload X17.here hx rfl (hb hby at_59) rfl rfl k) ?_
    obtain ⟨cq18, kq18, q18a, q18b, q18c⟩ := isOf hZ rfl I17.1
    obtain ⟨_, _, ⟨T18, L18, k18, n18⟩, -, X18, ⟨Lc18, hQ18, l18, y18, z18⟩, st18⟩ := X17.virtualBack hx (y := (⟨"com/example/cosine/cosine/index/IntList", "copy", "()Lcom/example/cosine/cosine/index/IntList;"⟩ : MethodName)) (z := (⟨"com/example/cosine/cosine/index/IntList", "copy", "()Lcom/example/cosine/cosine/index/IntList;"⟩ : MethodName)) hown (mvT hZ (hw _ (List.mem_of_getElem? (i := 40) rfl))) (mvT hZ (hw _ (List.mem_of_getElem? (i := 41) rfl))) (notFace_of_selects (args := #[]) (mvT hZ (hw _ (List.mem_of_getElem? (i := 43) rfl)))) (mvT hZ (hw _ (List.mem_of_getElem? (i := 43) rfl))) (mvT hZ (hw _ (List.mem_of_getElem? (i := 42) rfl))) (by decide) (backOf (W := 0) (rm8 l Z a0 hw [] b15 ar17 ka17 za17 [p3] T17.heap n0 (Nat.le_trans (Nat.le_trans (Nat.le_trans Z0 E15.1) K16.1) K17.1) (I17) ((Nat.le_of_ble_eq_true rfl))) hZ (hw _ (List.mem_of_getElem? (i := 44) rfl)) (hw _ (List.mem_of_getElem? (i := 2) rfl)) (by decide) (by decide)) q18a q18c (g := (mkF m 61 #[.val (.int p1), .val (.int p2), .val (.int p3), .val (.int p4), .val (.int p5), .val (.int p6), .val (.int (1 : Int32)), .val (.int (p6 ^^^ (-1 : Int32))), .val (.ref b15), .unset, .unset] [(.ref b15)])) rfl (by rw [hml]; rfl) (Steps.refl _) (argsL := []) (rest := []) (lenOf pd_4 rfl) rfl (by show 2 * 0 + _ ≤ _; exact Nat.le_of_eq rfl) (hb hby at_61) (fun _ _ => ⟨rfl, rfl, (by decide : 3 + 3 ≤ _), (by decide : 18 + 18 ≤ _)⟩)
    dsimp only [Pt.U, Pt.locs, Pt.cells, Pt.slots] at X18 l18 y18 z18 st18 hQ18
    subst l18 y18 z18
    obtain ⟨cc18, ca18, kc18, rfl, N18q, K18, I18, g_cc18, g_ca18, u18, w18⟩ := hQ18
    have N18 := Fr.app N17 N18q
    have ne_ar17_cc18 : ar17 ≠ cc18 := Nat.ne_of_lt (Nat.lt_of_lt_of_le I17.2.2.2.2.1.lt u18)
    have ne_b15_cc18 : b15 ≠ cc18 := Nat.ne_of_lt (Nat.lt_of_lt_of_le I17.1.lt u18)
    have ne_ar17_ca18 : ar17 ≠ ca18 := Nat.ne_of_lt (Nat.lt_of_lt_of_le I17.2.2.2.2.1.lt w18)
    have ne_b15_ca18 : b15 ≠ ca18 := Nat.ne_of_lt (Nat.lt_of_lt_of_le I17.1.lt w18)
    have ne_cc18_ca18 : cc18 ≠ ca18 := I18.2.2.2.2.2.2.2.2
    have IK19 := IL.keep I17 K18 nin0 nin0
    refine Goes.tr (U' := T18.setTop (mkF m 64 #[.val (.int p1), .val (.int p2), .val (.int p3), .val (.int p4), .val (.int p5), .val (.int p6), .val (.int (1 : Int32)), .val (.int (p6 ^^^ (-1 : Int32))), .val (.ref b15), .unset, .unset] [(.ref cc18)])) st18 ?_
    refine Goes.st (U' := T18.setTop (mkF m 66 #[.val (.int p1), .val (.int p2), .val (.int p3), .val (.int p4), .val (.int p5), .val (.int p6), .val (.int (1 : Int32)), .val (.int (p6 ^^^ (-1 : Int32))), .val (.ref b15), .val (.ref cc18), .unset] [])) (fun t k => XS.astore X18.here hx rfl (hb hby at_64) rfl rfl (l' := #[.val (.int p1), .val (.int p2), .val (.int p3), .val (.int p4), .val (.int p5), .val (.int p6), .val (.int (1 : Int32)), .val (.int (p6 ^^^ (-1 : Int32))), .val (.ref b15), .val (.ref cc18), .unset]) rfl k) ?_
    refine Goes.st (U' := T18.setTop (mkF m 68 #[.val (.int p1), .val (.int p2), .val (.int p3), .val (.int p4), .val (.int p5), .val (.int p6), .val (.int (1 : Int32)), .val (.int (p6 ^^^ (-1 : Int32))), .val (.ref b15), .val (.ref cc18), .unset] [(.ref cc18)])) (fun t k => XS.aload X18.here hx rfl (hb hby at_66) rfl rfl k) ?_
    obtain ⟨cq20, kq20, q20a, q20b, q20c⟩ := isOf hZ rfl I18.1
    obtain ⟨_, _, ⟨T20, L20, k20, n20⟩, -, X20, ⟨Lc20, hQ20, l20, y20, z20⟩, st20⟩ := X18.virtualBack hx (y := (⟨"com/example/cosine/cosine/index/IntList", "size", "()I"⟩ : MethodName)) (z := (⟨"com/example/cosine/cosine/index/IntList", "size", "()I"⟩ : MethodName)) hown (mvT hZ (hw _ (List.mem_of_getElem? (i := 47) rfl))) (mvT hZ (hw _ (List.mem_of_getElem? (i := 48) rfl))) (notFace_of_selects (args := #[]) (mvT hZ (hw _ (List.mem_of_getElem? (i := 50) rfl)))) (mvT hZ (hw _ (List.mem_of_getElem? (i := 50) rfl))) (mvT hZ (hw _ (List.mem_of_getElem? (i := 49) rfl))) (by decide) (backOf (W := 0) (rm9 l Z a0 hw [] cc18 ca18 kc18 ([p3].length.toInt32) [p3] T18.heap n0 (Nat.le_trans (Nat.le_trans (Nat.le_trans (Nat.le_trans Z0 E15.1) K16.1) K17.1) K18.1) (I18)) hZ (hw _ (List.mem_of_getElem? (i := 51) rfl)) (hw _ (List.mem_of_getElem? (i := 2) rfl)) (by decide) (by decide)) q20a q20c (g := (mkF m 68 #[.val (.int p1), .val (.int p2), .val (.int p3), .val (.int p4), .val (.int p5), .val (.int p6), .val (.int (1 : Int32)), .val (.int (p6 ^^^ (-1 : Int32))), .val (.ref b15), .val (.ref cc18), .unset] [(.ref cc18)])) rfl (by rw [hml]; rfl) (Steps.refl _) (argsL := []) (rest := []) (lenOf pd_5 rfl) rfl (by show 2 * 0 + _ ≤ _; exact Nat.le_of_eq rfl) (hb hby at_68) (fun _ _ => ⟨rfl, rfl, (by decide : 6 + 0 ≤ _), (by decide : 36 + 0 ≤ _)⟩)
    dsimp only [Pt.U, Pt.locs, Pt.cells, Pt.slots] at X20 l20 y20 z20 st20 hQ20
    subst l20 y20 z20
    obtain ⟨rfl, N20q, e20⟩ := hQ20
    have N20 := Fr.app N18 N20q
    replace e20 := e20
    refine Goes.tr (U' := T20.setTop (mkF m 71 #[.val (.int p1), .val (.int p2), .val (.int p3), .val (.int p4), .val (.int p5), .val (.int p6), .val (.int (1 : Int32)), .val (.int (p6 ^^^ (-1 : Int32))), .val (.ref b15), .val (.ref cc18), .unset] [(.int (1 : Int32))])) st20 ?_
    refine Goes.st (U' := T20.setTop (mkF m 73 #[.val (.int p1), .val (.int p2), .val (.int p3), .val (.int p4), .val (.int p5), .val (.int p6), .val (.int (1 : Int32)), .val (.int (p6 ^^^ (-1 : Int32))), .val (.ref b15), .val (.ref cc18), .unset] [(.int (1 : Int32)), (.int (1 : Int32))])) (fun t k => XS.iload X20.here hx rfl (hb hby at_71) rfl k) ?_
    refine Goes.st (U' := T20.setTop (mkF m 76 #[.val (.int p1), .val (.int p2), .val (.int p3), .val (.int p4), .val (.int p5), .val (.int p6), .val (.int (1 : Int32)), .val (.int (p6 ^^^ (-1 : Int32))), .val (.ref b15), .val (.ref cc18), .unset] [])) (fun t k => XS.icmpNo X20.here hx rfl (hb hby at_73) rfl (teq (rfl : (1 : Int32) = (1 : Int32))).2 k) ?_
    refine Goes.st (U' := T20.setTop (mkF m 77 #[.val (.int p1), .val (.int p2), .val (.int p3), .val (.int p4), .val (.int p5), .val (.int p6), .val (.int (1 : Int32)), .val (.int (p6 ^^^ (-1 : Int32))), .val (.ref b15), .val (.ref cc18), .unset] [(.int (1 : Int32))])) (fun t k => XS.iconst X20.here hx rfl (hb hby at_76) k) ?_
    refine Goes.st (U' := T20.setTop (mkF m 81 #[.val (.int p1), .val (.int p2), .val (.int p3), .val (.int p4), .val (.int p5), .val (.int p6), .val (.int (1 : Int32)), .val (.int (p6 ^^^ (-1 : Int32))), .val (.ref b15), .val (.ref cc18), .unset] [(.int (1 : Int32))])) (fun t k => XS.goto X20.here hx rfl (pc0 := 77) (pc' := 81) rfl (hb hby at_77) (by decide) (by decide) k) ?_
    refine Goes.st (U' := T20.setTop (mkF m 83 #[.val (.int p1), .val (.int p2), .val (.int p3), .val (.int p4), .val (.int p5), .val (.int p6), .val (.int (1 : Int32)), .val (.int (p6 ^^^ (-1 : Int32))), .val (.ref b15), .val (.ref cc18), .val (.int (1 : Int32))] [])) (fun t k => XS.istore X20.here hx rfl (hb hby at_81) rfl (l' := #[.val (.int p1), .val (.int p2), .val (.int p3), .val (.int p4), .val (.int p5), .val (.int p6), .val (.int (1 : Int32)), .val (.int (p6 ^^^ (-1 : Int32))), .val (.ref b15), .val (.ref cc18), .val (.int (1 : Int32))]) rfl k) ?_
    refine Goes.st (U' := T20.setTop (mkF m 85 #[.val (.int p1), .val (.int p2), .val (.int p3), .val (.int p4), .val (.int p5), .val (.int p6), .val (.int (1 : Int32)), .val (.int (p6 ^^^ (-1 : Int32))), .val (.ref b15), .val (.ref cc18), .val (.int (1 : Int32))] [(.ref cc18)])) (fun t k => XS.aload X20.here hx rfl (hb hby at_83) rfl rfl k) ?_
    refine Goes.st (U' := T20.setTop (mkF m 87 #[.val (.int p1), .val (.int p2), .val (.int p3), .val (.int p4), .val (.int p5), .val (.int p6), .val (.int (1 : Int32)), .val (.int (p6 ^^^ (-1 : Int32))), .val (.ref b15), .val (.ref cc18), .val (.int (1 : Int32))] [(.int p6), (.ref cc18)])) (fun t k => XS.iload X20.here hx rfl (hb hby at_85) rfl k) ?_
    obtain ⟨cq21, kq21, q21a, q21b, q21c⟩ := isOf hZ e20 I18.1
    obtain ⟨_, _, ⟨T21, L21, k21, n21⟩, -, X21, ⟨Lc21, hQ21, l21, y21, z21⟩, st21⟩ := X20.virtualBack hx (y := (⟨"com/example/cosine/cosine/index/IntList", "add", "(I)V"⟩ : MethodName)) (z := (⟨"com/example/cosine/cosine/index/IntList", "add", "(I)V"⟩ : MethodName)) hown (mvT hZ (hw _ (List.mem_of_getElem? (i := 12) rfl))) (mvT hZ (hw _ (List.mem_of_getElem? (i := 13) rfl))) (notFace_of_selects (args := #[]) (mvT hZ (hw _ (List.mem_of_getElem? (i := 15) rfl)))) (mvT hZ (hw _ (List.mem_of_getElem? (i := 15) rfl))) (mvT hZ (hw _ (List.mem_of_getElem? (i := 14) rfl))) (by decide) (backOf (W := 0) (rm3 l Z a0 hw [] cc18 p6 ca18 kc18 ([p3].length.toInt32) [p3] T18.heap n0 (Nat.le_trans (Nat.le_trans (Nat.le_trans (Nat.le_trans Z0 E15.1) K16.1) K17.1) K18.1) (I18) ((Nat.le_of_ble_eq_true rfl)) (g_cc18) (g_ca18)) hZ (hw _ (List.mem_of_getElem? (i := 16) rfl)) (hw _ (List.mem_of_getElem? (i := 2) rfl)) (by decide) (by decide)) q21a q21c (g := (mkF m 87 #[.val (.int p1), .val (.int p2), .val (.int p3), .val (.int p4), .val (.int p5), .val (.int p6), .val (.int (1 : Int32)), .val (.int (p6 ^^^ (-1 : Int32))), .val (.ref b15), .val (.ref cc18), .val (.int (1 : Int32))] [(.int p6), (.ref cc18)])) rfl (by rw [hml]; rfl) (Steps.refl _) (argsL := [(.int p6)]) (rest := []) (lenOf pd_3 rfl) rfl (by show 2 * 0 + _ ≤ _; exact Nat.le_of_eq rfl) (hb hby at_87) (fun _ _ => ⟨rfl, e20, (by decide : 6 + 1 ≤ _), (by decide : 36 + 8 ≤ _)⟩)
    dsimp only [Pt.U, Pt.locs, Pt.cells, Pt.slots] at X21 l21 y21 z21 st21 hQ21
    subst l21 y21 z21
    obtain ⟨rfl, N21q, K21, ar21, ka21, za21, I21, g_ar21, u21⟩ := hQ21
    have N21 := Fr.app N20 N21q
    have ne_ar17_ar21 : ar17 ≠ ar21 := u21.elim (fun q => q ▸ ne_ar17_ca18) (fun q => Nat.ne_of_lt (Nat.lt_of_lt_of_le (I17.2.2.2.2.1.keep K18).lt q))
    have ne_b15_ar21 : b15 ≠ ar21 := u21.elim (fun q => q ▸ ne_b15_ca18) (fun q => Nat.ne_of_lt (Nat.lt_of_lt_of_le (I17.1.keep K18).lt q))
    have ne_cc18_ar21 : cc18 ≠ ar21 := I21.2.2.2.2.2.2.2.2
    have IK22 := IL.keep IK19 K21 (ninS ne_b15_cc18 (ninS ne_b15_ca18 nin0)) (ninS ne_ar17_cc18 (ninS ne_ar17_ca18 nin0))
    refine Goes.tr (U' := T21.setTop (mkF m 90 #[.val (.int p1), .val (.int p2), .val (.int p3), .val (.int p4), .val (.int p5), .val (.int p6), .val (.int (1 : Int32)), .val (.int (p6 ^^^ (-1 : Int32))), .val (.ref b15), .val (.ref cc18), .val (.int (1 : Int32))] [])) st21 ?_
    refine Goes.st (U' := T21.setTop (mkF m 92 #[.val (.int p1), .val (.int p2), .val (.int p3), .val (.int p4), .val (.int p5), .val (.int p6), .val (.int (1 : Int32)), .val (.int (p6 ^^^ (-1 : Int32))), .val (.ref b15), .val (.ref cc18), .val (.int (1 : Int32))] [(.ref b15)])) (fun t k => XS.aload X21.here hx rfl (hb hby at_90) rfl rfl k) ?_
    refine Goes.st (U' := T21.setTop (mkF m 94 #[.val (.int p1), .val (.int p2), .val (.int p3), .val (.int p4), .val (.int p5), .val (.int p6), .val (.int (1 : Int32)), .val (.int (p6 ^^^ (-1 : Int32))), .val (.ref b15), .val (.ref cc18), .val (.int (1 : Int32))] [(.int (p6 ^^^ (-1 : Int32))), (.ref b15)])) (fun t k => XS.iload X21.here hx rfl (hb hby at_92) rfl k) ?_
    obtain ⟨cq23, kq23, q23a, q23b, q23c⟩ := isOf hZ rfl ((I17.1.keep K18).keep K21)
    obtain ⟨_, _, ⟨T23, L23, k23, n23⟩, -, X23, ⟨Lc23, hQ23, l23, y23, z23⟩, st23⟩ := X21.virtualBack hx (y := (⟨"com/example/cosine/cosine/index/IntList", "add", "(I)V"⟩ : MethodName)) (z := (⟨"com/example/cosine/cosine/index/IntList", "add", "(I)V"⟩ : MethodName)) hown (mvT hZ (hw _ (List.mem_of_getElem? (i := 12) rfl))) (mvT hZ (hw _ (List.mem_of_getElem? (i := 13) rfl))) (notFace_of_selects (args := #[]) (mvT hZ (hw _ (List.mem_of_getElem? (i := 15) rfl)))) (mvT hZ (hw _ (List.mem_of_getElem? (i := 15) rfl))) (mvT hZ (hw _ (List.mem_of_getElem? (i := 14) rfl))) (by decide) (backOf (W := 0) (rm3 l Z a0 hw [] b15 (p6 ^^^ (-1 : Int32)) ar17 ka17 za17 [p3] T21.heap n0 (Nat.le_trans (Nat.le_trans (Nat.le_trans (Nat.le_trans (Nat.le_trans Z0 E15.1) K16.1) K17.1) K18.1) K21.1) (IK22) ((Nat.le_of_ble_eq_true rfl)) (g_b15) (g_ar17)) hZ (hw _ (List.mem_of_getElem? (i := 16) rfl)) (hw _ (List.mem_of_getElem? (i := 2) rfl)) (by decide) (by decide)) q23a q23c (g := (mkF m 94 #[.val (.int p1), .val (.int p2), .val (.int p3), .val (.int p4), .val (.int p5), .val (.int p6), .val (.int (1 : Int32)), .val (.int (p6 ^^^ (-1 : Int32))), .val (.ref b15), .val (.ref cc18), .val (.int (1 : Int32))] [(.int (p6 ^^^ (-1 : Int32))), (.ref b15)])) rfl (by rw [hml]; rfl) (Steps.refl _) (argsL := [(.int (p6 ^^^ (-1 : Int32)))]) (rest := []) (lenOf pd_3 rfl) rfl (by show 2 * 0 + _ ≤ _; exact Nat.le_of_eq rfl) (hb hby at_94) (fun _ _ => ⟨rfl, rfl, (by decide : 7 + 1 ≤ _), (by decide : 44 + 8 ≤ _)⟩)
    dsimp only [Pt.U, Pt.locs, Pt.cells, Pt.slots] at X23 l23 y23 z23 st23 hQ23
    subst l23 y23 z23
    obtain ⟨rfl, N23q, K23, ar23, ka23, za23, I23, g_ar23, u23⟩ := hQ23
    have N23 := Fr.app N21 N23q
    have ne_ar21_ar23 : ar21 ≠ ar23 := u23.elim (fun q => q ▸ (Ne.symm ne_ar17_ar21)) (fun q => Nat.ne_of_lt (Nat.lt_of_lt_of_le I21.2.2.2.2.1.lt q))
    have ne_cc18_ar23 : cc18 ≠ ar23 := u23.elim (fun q => q ▸ (Ne.symm ne_ar17_cc18)) (fun q => Nat.ne_of_lt (Nat.lt_of_lt_of_le I21.1.lt q))
    have ne_b15_ar23 : b15 ≠ ar23 := I23.2.2.2.2.2.2.2.2
    have IK24 := IL.keep I21 K23 (ninS (Ne.symm ne_b15_cc18) (ninS (Ne.symm ne_ar17_cc18) nin0)) (ninS (Ne.symm ne_b15_ar21) (ninS (Ne.symm ne_ar17_ar21) nin0))
    refine Goes.tr (U' := T23.setTop (mkF m 97 #[.val (.int p1), .val (.int p2), .val (.int p3), .val (.int p4), .val (.int p5), .val (.int p6), .val (.int (1 : Int32)), .val (.int (p6 ^^^ (-1 : Int32))), .val (.ref b15), .val (.ref cc18), .val (.int (1 : Int32))] [])) st23 ?_
    refine Goes.st (U' := T23.setTop (mkF m 99 #[.val (.int p1), .val (.int p2), .val (.int p3), .val (.int p4), .val (.int p5), .val (.int p6), .val (.int (1 : Int32)), .val (.int (p6 ^^^ (-1 : Int32))), .val (.ref b15), .val (.ref cc18), .val (.int (1 : Int32))] [(.int (1 : Int32))])) (fun t k => XS.iload X23.here hx rfl (hb hby at_97) rfl k) ?_
    refine Goes.st (U' := T23.setTop (mkF m 102 #[.val (.int p1), .val (.int p2), .val (.int p3), .val (.int p4), .val (.int p5), .val (.int p6), .val (.int (1 : Int32)), .val (.int (p6 ^^^ (-1 : Int32))), .val (.ref b15), .val (.ref cc18), .val (.int (1 : Int32))] [])) (fun t k => XS.ifNo X23.here hx rfl (hb hby at_99) rfl ((if0 _ _).trans (feq (by decide : ¬ ((1 : Int32) = (0 : Int32)))).1) k) ?_
    refine Goes.st (U' := T23.setTop (mkF m 104 #[.val (.int p1), .val (.int p2), .val (.int p3), .val (.int p4), .val (.int p5), .val (.int p6), .val (.int (1 : Int32)), .val (.int (p6 ^^^ (-1 : Int32))), .val (.ref b15), .val (.ref cc18), .val (.int (1 : Int32))] [(.ref cc18)])) (fun t k => XS.aload X23.here hx rfl (hb hby at_102) rfl rfl k) ?_
    obtain ⟨cq25, kq25, q25a, q25b, q25c⟩ := isOf hZ rfl (I21.1.keep K23)
    obtain ⟨_, _, ⟨T25, L25, k25, n25⟩, -, X25, ⟨Lc25, hQ25, l25, y25, z25⟩, st25⟩ := X23.virtualBack hx (y := (⟨"com/example/cosine/cosine/index/IntList", "size", "()I"⟩ : MethodName)) (z := (⟨"com/example/cosine/cosine/index/IntList", "size", "()I"⟩ : MethodName)) hown (mvT hZ (hw _ (List.mem_of_getElem? (i := 47) rfl))) (mvT hZ (hw _ (List.mem_of_getElem? (i := 48) rfl))) (notFace_of_selects (args := #[]) (mvT hZ (hw _ (List.mem_of_getElem? (i := 50) rfl)))) (mvT hZ (hw _ (List.mem_of_getElem? (i := 50) rfl))) (mvT hZ (hw _ (List.mem_of_getElem? (i := 49) rfl))) (by decide) (backOf (W := 0) (rm9 l Z a0 hw [] cc18 ar21 ka21 za21 [p3, p6] T23.heap n0 (Nat.le_trans (Nat.le_trans (Nat.le_trans (Nat.le_trans (Nat.le_trans (Nat.le_trans Z0 E15.1) K16.1) K17.1) K18.1) K21.1) K23.1) (IK24)) hZ (hw _ (List.mem_of_getElem? (i := 51) rfl)) (hw _ (List.mem_of_getElem? (i := 2) rfl)) (by decide) (by decide)) q25a q25c (g := (mkF m 104 #[.val (.int p1), .val (.int p2), .val (.int p3), .val (.int p4), .val (.int p5), .val (.int p6), .val (.int (1 : Int32)), .val (.int (p6 ^^^ (-1 : Int32))), .val (.ref b15), .val (.ref cc18), .val (.int (1 : Int32))] [(.ref cc18)])) rfl (by rw [hml]; rfl) (Steps.refl _) (argsL := []) (rest := []) (lenOf pd_5 rfl) rfl (by show 2 * 0 + _ ≤ _; exact Nat.le_of_eq rfl) (hb hby at_104) (fun _ _ => ⟨rfl, rfl, (by decide : 8 + 0 ≤ _), (by decide : 52 + 0 ≤ _)⟩)
    dsimp only [Pt.U, Pt.locs, Pt.cells, Pt.slots] at X25 l25 y25 z25 st25 hQ25
    subst l25 y25 z25
    obtain ⟨rfl, N25q, e25⟩ := hQ25
    have N25 := Fr.app N23 N25q
    replace e25 := e25
    refine Goes.tr (U' := T25.setTop (mkF m 107 #[.val (.int p1), .val (.int p2), .val (.int p3), .val (.int p4), .val (.int p5), .val (.int p6), .val (.int (1 : Int32)), .val (.int (p6 ^^^ (-1 : Int32))), .val (.ref b15), .val (.ref cc18), .val (.int (1 : Int32))] [(.int (2 : Int32))])) st25 ?_
    refine Goes.st (U' := T25.setTop (mkF m 109 #[.val (.int p1), .val (.int p2), .val (.int p3), .val (.int p4), .val (.int p5), .val (.int p6), .val (.int (1 : Int32)), .val (.int (p6 ^^^ (-1 : Int32))), .val (.ref b15), .val (.ref cc18), .val (.int (1 : Int32))] [(.int (1 : Int32)), (.int (2 : Int32))])) (fun t k => XS.iload X25.here hx rfl (hb hby at_107) rfl k) ?_
    refine Goes.st (U' := T25.setTop (mkF m 110 #[.val (.int p1), .val (.int p2), .val (.int p3), .val (.int p4), .val (.int p5), .val (.int p6), .val (.int (1 : Int32)), .val (.int (p6 ^^^ (-1 : Int32))), .val (.ref b15), .val (.ref cc18), .val (.int (1 : Int32))] [(.int (1 : Int32)), (.int (1 : Int32)), (.int (2 : Int32))])) (fun t k => XS.iconst X25.here hx rfl (hb hby at_109) k) ?_
    refine Goes.st (U' := T25.setTop (mkF m 111 #[.val (.int p1), .val (.int p2), .val (.int p3), .val (.int p4), .val (.int p5), .val (.int p6), .val (.int (1 : Int32)), .val (.int (p6 ^^^ (-1 : Int32))), .val (.ref b15), .val (.ref cc18), .val (.int (1 : Int32))] [(.int (2 : Int32)), (.int (2 : Int32))])) (fun t k => XS.iadd X25.here hx rfl (hb hby at_110) rfl k) ?_
    refine Goes.st (U' := T25.setTop (mkF m 114 #[.val (.int p1), .val (.int p2), .val (.int p3), .val (.int p4), .val (.int p5), .val (.int p6), .val (.int (1 : Int32)), .val (.int (p6 ^^^ (-1 : Int32))), .val (.ref b15), .val (.ref cc18), .val (.int (1 : Int32))] [])) (fun t k => XS.icmpNo X25.here hx rfl (hb hby at_111) rfl (teq (rfl : (2 : Int32) = (2 : Int32))).2 k) ?_
    refine Goes.st (U' := T25.setTop (mkF m 116 #[.val (.int p1), .val (.int p2), .val (.int p3), .val (.int p4), .val (.int p5), .val (.int p6), .val (.int (1 : Int32)), .val (.int (p6 ^^^ (-1 : Int32))), .val (.ref b15), .val (.ref cc18), .val (.int (1 : Int32))] [(.ref b15)])) (fun t k => XS.aload X25.here hx rfl (hb hby at_114) rfl rfl k) ?_
    obtain ⟨cq26, kq26, q26a, q26b, q26c⟩ := isOf hZ e25 I23.1
    obtain ⟨_, _, ⟨T26, L26, k26, n26⟩, -, X26, ⟨Lc26, hQ26, l26, y26, z26⟩, st26⟩ := X25.virtualBack hx (y := (⟨"com/example/cosine/cosine/index/IntList", "size", "()I"⟩ : MethodName)) (z := (⟨"com/example/cosine/cosine/index/IntList", "size", "()I"⟩ : MethodName)) hown (mvT hZ (hw _ (List.mem_of_getElem? (i := 47) rfl))) (mvT hZ (hw _ (List.mem_of_getElem? (i := 48) rfl))) (notFace_of_selects (args := #[]) (mvT hZ (hw _ (List.mem_of_getElem? (i := 50) rfl)))) (mvT hZ (hw _ (List.mem_of_getElem? (i := 50) rfl))) (mvT hZ (hw _ (List.mem_of_getElem? (i := 49) rfl))) (by decide) (backOf (W := 0) (rm9 l Z a0 hw [] b15 ar23 ka23 za23 [p3, (p6 ^^^ (-1 : Int32))] T23.heap n0 (Nat.le_trans (Nat.le_trans (Nat.le_trans (Nat.le_trans (Nat.le_trans (Nat.le_trans Z0 E15.1) K16.1) K17.1) K18.1) K21.1) K23.1) (I23)) hZ (hw _ (List.mem_of_getElem? (i := 51) rfl)) (hw _ (List.mem_of_getElem? (i := 2) rfl)) (by decide) (by decide)) q26a q26c (g := (mkF m 116 #[.val (.int p1), .val (.int p2), .val (.int p3), .val (.int p4), .val (.int p5), .val (.int p6), .val (.int (1 : Int32)), .val (.int (p6 ^^^ (-1 : Int32))), .val (.ref b15), .val (.ref cc18), .val (.int (1 : Int32))] [(.ref b15)])) rfl (by rw [hml]; rfl) (Steps.refl _) (argsL := []) (rest := []) (lenOf pd_5 rfl) rfl (by show 2 * 0 + _ ≤ _; exact Nat.le_of_eq rfl) (hb hby at_116) (fun _ _ => ⟨rfl, e25, (by decide : 8 + 0 ≤ _), (by decide : 52 + 0 ≤ _)⟩)
    dsimp only [Pt.U, Pt.locs, Pt.cells, Pt.slots] at X26 l26 y26 z26 st26 hQ26
    subst l26 y26 z26
    obtain ⟨rfl, N26q, e26⟩ := hQ26
    have N26 := Fr.app N25 N26q
    replace e26 := e26
    refine Goes.tr (U' := T26.setTop (mkF m 119 #[.val (.int p1), .val (.int p2), .val (.int p3), .val (.int p4), .val (.int p5), .val (.int p6), .val (.int (1 : Int32)), .val (.int (p6 ^^^ (-1 : Int32))), .val (.ref b15), .val (.ref cc18), .val (.int (1 : Int32))] [(.int (2 : Int32))])) st26 ?_
    refine Goes.st (U' := T26.setTop (mkF m 121 #[.val (.int p1), .val (.int p2), .val (.int p3), .val (.int p4), .val (.int p5), .val (.int p6), .val (.int (1 : Int32)), .val (.int (p6 ^^^ (-1 : Int32))), .val (.ref b15), .val (.ref cc18), .val (.int (1 : Int32))] [(.int (1 : Int32)), (.int (2 : Int32))])) (fun t k => XS.iload X26.here hx rfl (hb hby at_119) rfl k) ?_
    refine Goes.st (U' := T26.setTop (mkF m 122 #[.val (.int p1), .val (.int p2), .val (.int p3), .val (.int p4), .val (.int p5), .val (.int p6), .val (.int (1 : Int32)), .val (.int (p6 ^^^ (-1 : Int32))), .val (.ref b15), .val (.ref cc18), .val (.int (1 : Int32))] [(.int (1 : Int32)), (.int (1 : Int32)), (.int (2 : Int32))])) (fun t k => XS.iconst X26.here hx rfl (hb hby at_121) k) ?_
    refine Goes.st (U' := T26.setTop (mkF m 123 #[.val (.int p1), .val (.int p2), .val (.int p3), .val (.int p4), .val (.int p5), .val (.int p6), .val (.int (1 : Int32)), .val (.int (p6 ^^^ (-1 : Int32))), .val (.ref b15), .val (.ref cc18), .val (.int (1 : Int32))] [(.int (2 : Int32)), (.int (2 : Int32))])) (fun t k => XS.iadd X26.here hx rfl (hb hby at_122) rfl k) ?_
    refine Goes.st (U' := T26.setTop (mkF m 126 #[.val (.int p1), .val (.int p2), .val (.int p3), .val (.int p4), .val (.int p5), .val (.int p6), .val (.int (1 : Int32)), .val (.int (p6 ^^^ (-1 : Int32))), .val (.ref b15), .val (.ref cc18), .val (.int (1 : Int32))] [])) (fun t k => XS.icmpNo X26.here hx rfl (hb hby at_123) rfl (teq (rfl : (2 : Int32) = (2 : Int32))).2 k) ?_
    refine Goes.st (U' := T26.setTop (mkF m 127 #[.val (.int p1), .val (.int p2), .val (.int p3), .val (.int p4), .val (.int p5), .val (.int p6), .val (.int (1 : Int32)), .val (.int (p6 ^^^ (-1 : Int32))), .val (.ref b15), .val (.ref cc18), .val (.int (1 : Int32))] [(.int (1 : Int32))])) (fun t k => XS.iconst X26.here hx rfl (hb hby at_126) k) ?_
    refine Goes.st (U' := T26.setTop (mkF m 131 #[.val (.int p1), .val (.int p2), .val (.int p3), .val (.int p4), .val (.int p5), .val (.int p6), .val (.int (1 : Int32)), .val (.int (p6 ^^^ (-1 : Int32))), .val (.ref b15), .val (.ref cc18), .val (.int (1 : Int32))] [(.int (1 : Int32))])) (fun t k => XS.goto X26.here hx rfl (pc0 := 127) (pc' := 131) rfl (hb hby at_127) (by decide) (by decide) k) ?_
    refine Goes.st (U' := T26.setTop (mkF m 133 #[.val (.int p1), .val (.int p2), .val (.int p3), .val (.int p4), .val (.int p5), .val (.int p6), .val (.int (1 : Int32)), .val (.int (p6 ^^^ (-1 : Int32))), .val (.ref b15), .val (.ref cc18), .val (.int (1 : Int32))] [])) (fun t k => XS.istore X26.here hx rfl (hb hby at_131) rfl (l' := #[.val (.int p1), .val (.int p2), .val (.int p3), .val (.int p4), .val (.int p5), .val (.int p6), .val (.int (1 : Int32)), .val (.int (p6 ^^^ (-1 : Int32))), .val (.ref b15), .val (.ref cc18), .val (.int (1 : Int32))]) rfl k) ?_
    refine Goes.st (U' := T26.setTop (mkF m 135 #[.val (.int p1), .val (.int p2), .val (.int p3), .val (.int p4), .val (.int p5), .val (.int p6), .val (.int (1 : Int32)), .val (.int (p6 ^^^ (-1 : Int32))), .val (.ref b15), .val (.ref cc18), .val (.int (1 : Int32))] [(.int (1 : Int32))])) (fun t k => XS.iload X26.here hx rfl (hb hby at_133) rfl k) ?_
    refine Goes.st (U' := T26.setTop (mkF m 138 #[.val (.int p1), .val (.int p2), .val (.int p3), .val (.int p4), .val (.int p5), .val (.int p6), .val (.int (1 : Int32)), .val (.int (p6 ^^^ (-1 : Int32))), .val (.ref b15), .val (.ref cc18), .val (.int (1 : Int32))] [])) (fun t k => XS.ifNo X26.here hx rfl (hb hby at_135) rfl ((if0 _ _).trans (feq (by decide : ¬ ((1 : Int32) = (0 : Int32)))).1) k) ?_
    refine Goes.st (U' := T26.setTop (mkF m 140 #[.val (.int p1), .val (.int p2), .val (.int p3), .val (.int p4), .val (.int p5), .val (.int p6), .val (.int (1 : Int32)), .val (.int (p6 ^^^ (-1 : Int32))), .val (.ref b15), .val (.ref cc18), .val (.int (1 : Int32))] [(.ref cc18)])) (fun t k => XS.aload X26.here hx rfl (hb hby at_138) rfl rfl k) ?_
    refine Goes.st (U' := T26.setTop (mkF m 142 #[.val (.int p1), .val (.int p2), .val (.int p3), .val (.int p4), .val (.int p5), .val (.int p6), .val (.int (1 : Int32)), .val (.int (p6 ^^^ (-1 : Int32))), .val (.ref b15), .val (.ref cc18), .val (.int (1 : Int32))] [(.int (1 : Int32)), (.ref cc18)])) (fun t k => XS.iload X26.here hx rfl (hb hby at_140) rfl k) ?_
    obtain ⟨cq27, kq27, q27a, q27b, q27c⟩ := isOf hZ e26 (I21.1.keep K23)
    obtain ⟨_, _, ⟨T27, L27, k27, n27⟩, -, X27, ⟨Lc27, hQ27, l27, y27, z27⟩, st27⟩ := X26.virtualBack hx (y := (⟨"com/example/cosine/cosine/index/IntList", "get", "(I)I"⟩ : MethodName)) (z := (⟨"com/example/cosine/cosine/index/IntList", "get", "(I)I"⟩ : MethodName)) hown (mvT hZ (hw _ (List.mem_of_getElem? (i := 52) rfl))) (mvT hZ (hw _ (List.mem_of_getElem? (i := 53) rfl))) (notFace_of_selects (args := #[]) (mvT hZ (hw _ (List.mem_of_getElem? (i := 55) rfl)))) (mvT hZ (hw _ (List.mem_of_getElem? (i := 55) rfl))) (mvT hZ (hw _ (List.mem_of_getElem? (i := 54) rfl))) (by decide) (backOf (W := 0) (rm10 l Z a0 hw [] cc18 (1 : Int32) ar21 ka21 za21 [p3, p6] p6 T23.heap n0 (Nat.le_trans (Nat.le_trans (Nat.le_trans (Nat.le_trans (Nat.le_trans (Nat.le_trans Z0 E15.1) K16.1) K17.1) K18.1) K21.1) K23.1) (IK24) ((by decide)) ((Nat.le_of_ble_eq_true rfl)) (rfl)) hZ (hw _ (List.mem_of_getElem? (i := 56) rfl)) (hw _ (List.mem_of_getElem? (i := 2) rfl)) (by decide) (by decide)) q27a q27c (g := (mkF m 142 #[.val (.int p1), .val (.int p2), .val (.int p3), .val (.int p4), .val (.int p5), .val (.int p6), .val (.int (1 : Int32)), .val (.int (p6 ^^^ (-1 : Int32))), .val (.ref b15), .val (.ref cc18), .val (.int (1 : Int32))] [(.int (1 : Int32)), (.ref cc18)])) rfl (by rw [hml]; rfl) (Steps.refl _) (argsL := [(.int (1 : Int32))]) (rest := []) (lenOf pd_6 rfl) rfl (by show 2 * 0 + _ ≤ _; exact Nat.le_of_eq rfl) (hb hby at_142) (fun _ _ => ⟨rfl, e26, (by decide : 8 + 0 ≤ _), (by decide : 52 + 0 ≤ _)⟩)
    dsimp only [Pt.U, Pt.locs, Pt.cells, Pt.slots] at X27 l27 y27 z27 st27 hQ27
    subst l27 y27 z27
    obtain ⟨rfl, N27q, e27⟩ := hQ27
    have N27 := Fr.app N26 N27q
    replace e27 := e27
    refine Goes.tr (U' := T27.setTop (mkF m 145 #[.val (.int p1), .val (.int p2), .val (.int p3), .val (.int p4), .val (.int p5), .val (.int p6), .val (.int (1 : Int32)), .val (.int (p6 ^^^ (-1 : Int32))), .val (.ref b15), .val (.ref cc18), .val (.int (1 : Int32))] [(.int p6)])) st27 ?_
    refine Goes.st (U' := T27.setTop (mkF m 147 #[.val (.int p1), .val (.int p2), .val (.int p3), .val (.int p4), .val (.int p5), .val (.int p6), .val (.int (1 : Int32)), .val (.int (p6 ^^^ (-1 : Int32))), .val (.ref b15), .val (.ref cc18), .val (.int (1 : Int32))] [(.int p6), (.int p6)])) (fun t k => XS.iload X27.here hx rfl (hb hby at_145) rfl k) ?_
    refine Goes.st (U' := T27.setTop (mkF m 150 #[.val (.int p1), .val (.int p2), .val (.int p3), .val (.int p4), .val (.int p5), .val (.int p6), .val (.int (1 : Int32)), .val (.int (p6 ^^^ (-1 : Int32))), .val (.ref b15), .val (.ref cc18), .val (.int (1 : Int32))] [])) (fun t k => XS.icmpNo X27.here hx rfl (hb hby at_147) rfl (teq (rfl : p6 = p6)).2 k) ?_
    refine Goes.st (U' := T27.setTop (mkF m 152 #[.val (.int p1), .val (.int p2), .val (.int p3), .val (.int p4), .val (.int p5), .val (.int p6), .val (.int (1 : Int32)), .val (.int (p6 ^^^ (-1 : Int32))), .val (.ref b15), .val (.ref cc18), .val (.int (1 : Int32))] [(.ref b15)])) (fun t k => XS.aload X27.here hx rfl (hb hby at_150) rfl rfl k) ?_
    refine Goes.st (U' := T27.setTop (mkF m 154 #[.val (.int p1), .val (.int p2), .val (.int p3), .val (.int p4), .val (.int p5), .val (.int p6), .val (.int (1 : Int32)), .val (.int (p6 ^^^ (-1 : Int32))), .val (.ref b15), .val (.ref cc18), .val (.int (1 : Int32))] [(.int (1 : Int32)), (.ref b15)])) (fun t k => XS.iload X27.here hx rfl (hb hby at_152) rfl k) ?_
    obtain ⟨cq28, kq28, q28a, q28b, q28c⟩ := isOf hZ e27 I23.1
    obtain ⟨_, _, ⟨T28, L28, k28, n28⟩, -, X28, ⟨Lc28, hQ28, l28, y28, z28⟩, st28⟩ := X27.virtualBack hx (y := (⟨"com/example/cosine/cosine/index/IntList", "get", "(I)I"⟩ : MethodName)) (z := (⟨"com/example/cosine/cosine/index/IntList", "get", "(I)I"⟩ : MethodName)) hown (mvT hZ (hw _ (List.mem_of_getElem? (i := 52) rfl))) (mvT hZ (hw _ (List.mem_of_getElem? (i := 53) rfl))) (notFace_of_selects (args := #[]) (mvT hZ (hw _ (List.mem_of_getElem? (i := 55) rfl)))) (mvT hZ (hw _ (List.mem_of_getElem? (i := 55) rfl))) (mvT hZ (hw _ (List.mem_of_getElem? (i := 54) rfl))) (by decide) (backOf (W := 0) (rm10 l Z a0 hw [] b15 (1 : Int32) ar23 ka23 za23 [p3, (p6 ^^^ (-1 : Int32))] (p6 ^^^ (-1 : Int32)) T23.heap n0 (Nat.le_trans (Nat.le_trans (Nat.le_trans (Nat.le_trans (Nat.le_trans (Nat.le_trans Z0 E15.1) K16.1) K17.1) K18.1) K21.1) K23.1) (I23) ((by decide)) ((Nat.le_of_ble_eq_true rfl)) (rfl)) hZ (hw _ (List.mem_of_getElem? (i := 56) rfl)) (hw _ (List.mem_of_getElem? (i := 2) rfl)) (by decide) (by decide)) q28a q28c (g := (mkF m 154 #[.val (.int p1), .val (.int p2), .val (.int p3), .val (.int p4), .val (.int p5), .val (.int p6), .val (.int (1 : Int32)), .val (.int (p6 ^^^ (-1 : Int32))), .val (.ref b15), .val (.ref cc18), .val (.int (1 : Int32))] [(.int (1 : Int32)), (.ref b15)])) rfl (by rw [hml]; rfl) (Steps.refl _) (argsL := [(.int (1 : Int32))]) (rest := []) (lenOf pd_6 rfl) rfl (by show 2 * 0 + _ ≤ _; exact Nat.le_of_eq rfl) (hb hby at_154) (fun _ _ => ⟨rfl, e27, (by decide : 8 + 0 ≤ _), (by decide : 52 + 0 ≤ _)⟩)
    dsimp only [Pt.U, Pt.locs, Pt.cells, Pt.slots] at X28 l28 y28 z28 st28 hQ28
    subst l28 y28 z28
    obtain ⟨rfl, N28q, e28⟩ := hQ28
    have N28 := Fr.app N27 N28q
    replace e28 := e28
    refine Goes.tr (U' := T28.setTop (mkF m 157 #[.val (.int p1), .val (.int p2), .val (.int p3), .val (.int p4), .val (.int p5), .val (.int p6), .val (.int (1 : Int32)), .val (.int (p6 ^^^ (-1 : Int32))), .val (.ref b15), .val (.ref cc18), .val (.int (1 : Int32))] [(.int (p6 ^^^ (-1 : Int32)))])) st28 ?_
    refine Goes.st (U' := T28.setTop (mkF m 159 #[.val (.int p1), .val (.int p2), .val (.int p3), .val (.int p4), .val (.int p5), .val (.int p6), .val (.int (1 : Int32)), .val (.int (p6 ^^^ (-1 : Int32))), .val (.ref b15), .val (.ref cc18), .val (.int (1 : Int32))] [(.int (p6 ^^^ (-1 : Int32))), (.int (p6 ^^^ (-1 : Int32)))])) (fun t k => XS.iload X28.here hx rfl (hb hby at_157) rfl k) ?_
    refine Goes.st (U' := T28.setTop (mkF m 162 #[.val (.int p1), .val (.int p2), .val (.int p3), .val (.int p4), .val (.int p5), .val (.int p6), .val (.int (1 : Int32)), .val (.int (p6 ^^^ (-1 : Int32))), .val (.ref b15), .val (.ref cc18), .val (.int (1 : Int32))] [])) (fun t k => XS.icmpNo X28.here hx rfl (hb hby at_159) rfl (teq (rfl : (p6 ^^^ (-1 : Int32)) = (p6 ^^^ (-1 : Int32)))).2 k) ?_
    refine Goes.st (U' := T28.setTop (mkF m 163 #[.val (.int p1), .val (.int p2), .val (.int p3), .val (.int p4), .val (.int p5), .val (.int p6), .val (.int (1 : Int32)), .val (.int (p6 ^^^ (-1 : Int32))), .val (.ref b15), .val (.ref cc18), .val (.int (1 : Int32))] [(.int (1 : Int32))])) (fun t k => XS.iconst X28.here hx rfl (hb hby at_162) k) ?_
    refine Goes.st (U' := T28.setTop (mkF m 167 #[.val (.int p1), .val (.int p2), .val (.int p3), .val (.int p4), .val (.int p5), .val (.int p6), .val (.int (1 : Int32)), .val (.int (p6 ^^^ (-1 : Int32))), .val (.ref b15), .val (.ref cc18), .val (.int (1 : Int32))] [(.int (1 : Int32))])) (fun t k => XS.goto X28.here hx rfl (pc0 := 163) (pc' := 167) rfl (hb hby at_163) (by decide) (by decide) k) ?_
    refine Goes.st (U' := T28.setTop (mkF m 169 #[.val (.int p1), .val (.int p2), .val (.int p3), .val (.int p4), .val (.int p5), .val (.int p6), .val (.int (1 : Int32)), .val (.int (p6 ^^^ (-1 : Int32))), .val (.ref b15), .val (.ref cc18), .val (.int (1 : Int32))] [])) (fun t k => XS.istore X28.here hx rfl (hb hby at_167) rfl (l' := #[.val (.int p1), .val (.int p2), .val (.int p3), .val (.int p4), .val (.int p5), .val (.int p6), .val (.int (1 : Int32)), .val (.int (p6 ^^^ (-1 : Int32))), .val (.ref b15), .val (.ref cc18), .val (.int (1 : Int32))]) rfl k) ?_
    refine Goes.st (U' := T28.setTop (mkF m 171 #[.val (.int p1), .val (.int p2), .val (.int p3), .val (.int p4), .val (.int p5), .val (.int p6), .val (.int (1 : Int32)), .val (.int (p6 ^^^ (-1 : Int32))), .val (.ref b15), .val (.ref cc18), .val (.int (1 : Int32))] [(.int (1 : Int32))])) (fun t k => XS.iload X28.here hx rfl (hb hby at_169) rfl k) ?_
    refine Goes.st (U' := T28.setTop (mkF m 174 #[.val (.int p1), .val (.int p2), .val (.int p3), .val (.int p4), .val (.int p5), .val (.int p6), .val (.int (1 : Int32)), .val (.int (p6 ^^^ (-1 : Int32))), .val (.ref b15), .val (.ref cc18), .val (.int (1 : Int32))] [])) (fun t k => XS.ifNo X28.here hx rfl (hb hby at_171) rfl ((if0 _ _).trans (tlt (by decide : (0 : Int32) < (1 : Int32))).2.2.2) k) ?_
    refine Goes.st (U' := T28.setTop (mkF m 176 #[.val (.int p1), .val (.int p2), .val (.int p3), .val (.int p4), .val (.int p5), .val (.int p6), .val (.int (1 : Int32)), .val (.int (p6 ^^^ (-1 : Int32))), .val (.ref b15), .val (.ref cc18), .val (.int (1 : Int32))] [(.int (1 : Int32))])) (fun t k => XS.iload X28.here hx rfl (hb hby at_174) rfl k) ?_
    refine Goes.st (U' := T28.setTop (mkF m 179 #[.val (.int p1), .val (.int p2), .val (.int p3), .val (.int p4), .val (.int p5), .val (.int p6), .val (.int (1 : Int32)), .val (.int (p6 ^^^ (-1 : Int32))), .val (.ref b15), .val (.ref cc18), .val (.int (1 : Int32))] [])) (fun t k => XS.ifNo X28.here hx rfl (hb hby at_176) rfl ((if0 _ _).trans (feq (by decide : ¬ ((1 : Int32) = (0 : Int32)))).1) k) ?_
    refine Goes.st (U' := T28.setTop (mkF m 181 #[.val (.int p1), .val (.int p2), .val (.int p3), .val (.int p4), .val (.int p5), .val (.int p6), .val (.int (1 : Int32)), .val (.int (p6 ^^^ (-1 : Int32))), .val (.ref b15), .val (.ref cc18), .val (.int (1 : Int32))] [(.ref cc18)])) (fun t k => XS.aload X28.here hx rfl (hb hby at_179) rfl rfl k) ?_
    refine Goes.st (U' := T28.setTop (mkF m 182 #[.val (.int p1), .val (.int p2), .val (.int p3), .val (.int p4), .val (.int p5), .val (.int p6), .val (.int (1 : Int32)), .val (.int (p6 ^^^ (-1 : Int32))), .val (.ref b15), .val (.ref cc18), .val (.int (1 : Int32))] [(.int (0 : Int32)), (.ref cc18)])) (fun t k => XS.iconst X28.here hx rfl (hb hby at_181) k) ?_
    obtain ⟨cq29, kq29, q29a, q29b, q29c⟩ := isOf hZ e28 (I21.1.keep K23)
    obtain ⟨_, _, ⟨T29, L29, k29, n29⟩, -, X29, ⟨Lc29, hQ29, l29, y29, z29⟩, st29⟩ := X28.virtualBack hx (y := (⟨"com/example/cosine/cosine/index/IntList", "get", "(I)I"⟩ : MethodName)) (z := (⟨"com/example/cosine/cosine/index/IntList", "get", "(I)I"⟩ : MethodName)) hown (mvT hZ (hw _ (List.mem_of_getElem? (i := 52) rfl))) (mvT hZ (hw _ (List.mem_of_getElem? (i := 53) rfl))) (notFace_of_selects (args := #[]) (mvT hZ (hw _ (List.mem_of_getElem? (i := 55) rfl)))) (mvT hZ (hw _ (List.mem_of_getElem? (i := 55) rfl))) (mvT hZ (hw _ (List.mem_of_getElem? (i := 54) rfl))) (by decide) (backOf (W := 0) (rm10 l Z a0 hw [] cc18 (0 : Int32) ar21 ka21 za21 [p3, p6] p3 T23.heap n0 (Nat.le_trans (Nat.le_trans (Nat.le_trans (Nat.le_trans (Nat.le_trans (Nat.le_trans Z0 E15.1) K16.1) K17.1) K18.1) K21.1) K23.1) (IK24) ((by decide)) ((Nat.le_of_ble_eq_true rfl)) (rfl)) hZ (hw _ (List.mem_of_getElem? (i := 56) rfl)) (hw _ (List.mem_of_getElem? (i := 2) rfl)) (by decide) (by decide)) q29a q29c (g := (mkF m 182 #[.val (.int p1), .val (.int p2), .val (.int p3), .val (.int p4), .val (.int p5), .val (.int p6), .val (.int (1 : Int32)), .val (.int (p6 ^^^ (-1 : Int32))), .val (.ref b15), .val (.ref cc18), .val (.int (1 : Int32))] [(.int (0 : Int32)), (.ref cc18)])) rfl (by rw [hml]; rfl) (Steps.refl _) (argsL := [(.int (0 : Int32))]) (rest := []) (lenOf pd_6 rfl) rfl (by show 2 * 0 + _ ≤ _; exact Nat.le_of_eq rfl) (hb hby at_182) (fun _ _ => ⟨rfl, e28, (by decide : 8 + 0 ≤ _), (by decide : 52 + 0 ≤ _)⟩)
    dsimp only [Pt.U, Pt.locs, Pt.cells, Pt.slots] at X29 l29 y29 z29 st29 hQ29
    subst l29 y29 z29
    obtain ⟨rfl, N29q, e29⟩ := hQ29
    have N29 := Fr.app N28 N29q
    replace e29 := e29
    refine Goes.tr (U' := T29.setTop (mkF m 185 #[.val (.int p1), .val (.int p2), .val (.int p3), .val (.int p4), .val (.int p5), .val (.int p6), .val (.int (1 : Int32)), .val (.int (p6 ^^^ (-1 : Int32))), .val (.ref b15), .val (.ref cc18), .val (.int (1 : Int32))] [(.int p3)])) st29 ?_
    refine Goes.st (U' := T29.setTop (mkF m 186 #[.val (.int p1), .val (.int p2), .val (.int p3), .val (.int p4), .val (.int p5), .val (.int p6), .val (.int (1 : Int32)), .val (.int (p6 ^^^ (-1 : Int32))), .val (.ref b15), .val (.ref cc18), .val (.int (1 : Int32))] [(.int p3), (.int p3)])) (fun t k => XS.iloadN X29.here hx rfl (hb hby at_185) rfl k) ?_
    refine Goes.st (U' := T29.setTop (mkF m 189 #[.val (.int p1), .val (.int p2), .val (.int p3), .val (.int p4), .val (.int p5), .val (.int p6), .val (.int (1 : Int32)), .val (.int (p6 ^^^ (-1 : Int32))), .val (.ref b15), .val (.ref cc18), .val (.int (1 : Int32))] [])) (fun t k => XS.icmpNo X29.here hx rfl (hb hby at_186) rfl (teq (rfl : p3 = p3)).2 k) ?_
    refine Goes.st (U' := T29.setTop (mkF m 190 #[.val (.int p1), .val (.int p2), .val (.int p3), .val (.int p4), .val (.int p5), .val (.int p6), .val (.int (1 : Int32)), .val (.int (p6 ^^^ (-1 : Int32))), .val (.ref b15), .val (.ref cc18), .val (.int (1 : Int32))] [(.int (1 : Int32))])) (fun t k => XS.iconst X29.here hx rfl (hb hby at_189) k) ?_
    refine Goes.st (U' := T29.setTop (mkF m 194 #[.val (.int p1), .val (.int p2), .val (.int p3), .val (.int p4), .val (.int p5), .val (.int p6), .val (.int (1 : Int32)), .val (.int (p6 ^^^ (-1 : Int32))), .val (.ref b15), .val (.ref cc18), .val (.int (1 : Int32))] [(.int (1 : Int32))])) (fun t k => XS.goto X29.here hx rfl (pc0 := 190) (pc' := 194) rfl (hb hby at_190) (by decide) (by decide) k) ?_
    refine Goes.st (U' := T29.setTop (mkF m 196 #[.val (.int p1), .val (.int p2), .val (.int p3), .val (.int p4), .val (.int p5), .val (.int p6), .val (.int (1 : Int32)), .val (.int (p6 ^^^ (-1 : Int32))), .val (.ref b15), .val (.ref cc18), .val (.int (1 : Int32))] [])) (fun t k => XS.istore X29.here hx rfl (hb hby at_194) rfl (l' := #[.val (.int p1), .val (.int p2), .val (.int p3), .val (.int p4), .val (.int p5), .val (.int p6), .val (.int (1 : Int32)), .val (.int (p6 ^^^ (-1 : Int32))), .val (.ref b15), .val (.ref cc18), .val (.int (1 : Int32))]) rfl k) ?_
    refine Goes.st (U' := T29.setTop (mkF m 198 #[.val (.int p1), .val (.int p2), .val (.int p3), .val (.int p4), .val (.int p5), .val (.int p6), .val (.int (1 : Int32)), .val (.int (p6 ^^^ (-1 : Int32))), .val (.ref b15), .val (.ref cc18), .val (.int (1 : Int32))] [(.int (1 : Int32))])) (fun t k => XS.iload X29.here hx rfl (hb hby at_196) rfl k) ?_
    refine Goes.st (U' := T29.setTop (mkF m 199 #[.val (.int p1), .val (.int p2), .val (.int p3), .val (.int p4), .val (.int p5), .val (.int p6), .val (.int (1 : Int32)), .val (.int (p6 ^^^ (-1 : Int32))), .val (.ref b15), .val (.ref cc18), .val (.int (1 : Int32))] [(.int (1 : Int32)), (.int (1 : Int32))])) (fun t k => XS.iconst X29.here hx rfl (hb hby at_198) k) ?_
    refine Goes.st (U' := T29.setTop (mkF m 224 #[.val (.int p1), .val (.int p2), .val (.int p3), .val (.int p4), .val (.int p5), .val (.int p6), .val (.int (1 : Int32)), .val (.int (p6 ^^^ (-1 : Int32))), .val (.ref b15), .val (.ref cc18), .val (.int (1 : Int32))] [])) (fun t k => XS.icmpYes X29.here hx rfl (pc0 := 199) (pc' := 224) rfl (hb hby at_199) rfl (flt (by decide : ¬ ((1 : Int32) < (1 : Int32)))).2.2.2 (by decide) (by decide) k) ?_
    refine Goes.st (U' := T29.setTop (mkF m 226 #[.val (.int p1), .val (.int p2), .val (.int p3), .val (.int p4), .val (.int p5), .val (.int p6), .val (.int (1 : Int32)), .val (.int (p6 ^^^ (-1 : Int32))), .val (.ref b15), .val (.ref cc18), .val (.int (1 : Int32))] [(.int (1 : Int32))])) (fun t k => XS.iload X29.here hx rfl (hb hby at_224) rfl k) ?_
    refine Goes.st (U' := T29.setTop (mkF m 227 #[.val (.int p1), .val (.int p2), .val (.int p3), .val (.int p4), .val (.int p5), .val (.int p6), .val (.int (1 : Int32)), .val (.int (p6 ^^^ (-1 : Int32))), .val (.ref b15), .val (.ref cc18), .val (.int (1 : Int32))] [(.int (2 : Int32)), (.int (1 : Int32))])) (fun t k => XS.iconst X29.here hx rfl (hb hby at_226) k) ?_
    refine Goes.st (U' := T29.setTop (mkF m 253 #[.val (.int p1), .val (.int p2), .val (.int p3), .val (.int p4), .val (.int p5), .val (.int p6), .val (.int (1 : Int32)), .val (.int (p6 ^^^ (-1 : Int32))), .val (.ref b15), .val (.ref cc18), .val (.int (1 : Int32))] [])) (fun t k => XS.icmpYes X29.here hx rfl (pc0 := 227) (pc' := 253) rfl (hb hby at_227) rfl (flt (by decide : ¬ ((2 : Int32) < (1 : Int32)))).2.2.2 (by decide) (by decide) k) ?_
    refine Goes.st (U' := T29.setTop (mkF m 255 #[.val (.int p1), .val (.int p2), .val (.int p3), .val (.int p4), .val (.int p5), .val (.int p6), .val (.int (1 : Int32)), .val (.int (p6 ^^^ (-1 : Int32))), .val (.ref b15), .val (.ref cc18), .val (.int (1 : Int32))] [(.int (1 : Int32))])) (fun t k => XS.iload X29.here hx rfl (hb hby at_253) rfl k) ?_
    refine Goes.retZ X29 hx (BodyLoose.notSynchronized Bd) Bd.returns (hb hby at_255) rfl (by decide) (by decide) ?_
    show Q0 Z p1 p2 p3 p4 p5 p6 h0 n0 _ T29.heap _
    rw [e29]
    exact ⟨rfl, N29⟩
  · skip
    refine Goes.st (U' := s₁.setTop (mkF m 5 #[.val (.int p1), .val (.int p2), .val (.int p3), .val (.int p4), .val (.int p5), .val (.int p6), .val (.int (2 : Int32)), .unset, .unset, .unset, .unset] [])) (fun t k => XS.istore X0.here hx rfl (hb hby at_3) rfl (l' := #[.val (.int p1), .val (.int p2), .val (.int p3), .val (.int p4), .val (.int p5), .val (.int p6), .val (.int (2 : Int32)), .unset, .unset, .unset, .unset]) rfl k) ?_
    refine Goes.st (U' := s₁.setTop (mkF m 7 #[.val (.int p1), .val (.int p2), .val (.int p3), .val (.int p4), .val (.int p5), .val (.int p6), .val (.int (2 : Int32)), .unset, .unset, .unset, .unset] [(.int p6)])) (fun t k => XS.iload X0.here hx rfl (hb hby at_5) rfl k) ?_
    refine Goes.st (U' := s₁.setTop (mkF m 8 #[.val (.int p1), .val (.int p2), .val (.int p3), .val (.int p4), .val (.int p5), .val (.int p6), .val (.int (2 : Int32)), .unset, .unset, .unset, .unset] [(.int (-1 : Int32)), (.int p6)])) (fun t k => XS.iconst X0.here hx rfl (hb hby at_7) k) ?_
    refine Goes.st (U' := s₁.setTop (mkF m 9 #[.val (.int p1), .val (.int p2), .val (.int p3), .val (.int p4), .val (.int p5), .val (.int p6), .val (.int (2 : Int32)), .unset, .unset, .unset, .unset] [(.int (p6 ^^^ (-1 : Int32)))])) (fun t k => XS.ixor X0.here hx rfl (hb hby at_8) rfl k) ?_
    refine Goes.st (U' := s₁.setTop (mkF m 11 #[.val (.int p1), .val (.int p2), .val (.int p3), .val (.int p4), .val (.int p5), .val (.int p6), .val (.int (2 : Int32)), .val (.int (p6 ^^^ (-1 : Int32))), .unset, .unset, .unset] [])) (fun t k => XS.istore X0.here hx rfl (hb hby at_9) rfl (l' := #[.val (.int p1), .val (.int p2), .val (.int p3), .val (.int p4), .val (.int p5), .val (.int p6), .val (.int (2 : Int32)), .val (.int (p6 ^^^ (-1 : Int32))), .unset, .unset, .unset]) rfl k) ?_
    obtain ⟨T30, h30, X30, e30, E30, A30, D30, -, st30⟩ := newO X0 hx hZ hown (hw _ (List.mem_of_getElem? (i := 0) rfl)) (hw _ (List.mem_of_getElem? (i := 1) rfl)) (hw _ (List.mem_of_getElem? (i := 2) rfl)) e0 (g := (mkF m 11 #[.val (.int p1), .val (.int p2), .val (.int p3), .val (.int p4), .val (.int p5), .val (.int p6), .val (.int (2 : Int32)), .val (.int (p6 ^^^ (-1 : Int32))), .unset, .unset, .unset] [])) rfl (hb hby at_11) (by decide) (by decide)
    obtain ⟨b30, g30⟩ : ∃ z, z = h0.size := ⟨_, rfl⟩
    rw [← g30] at A30 D30 st30
    have g_b30 : n0 ≤ b30 := Nat.le_trans Z0 (Nat.le_of_eq g30.symm)
    have F_values_b30 : Fld Z h30 b30 "com/example/cosine/cosine/index/IntList" "values" "[I" .null := D30 (Or.inl (hw _ (List.mem_of_getElem? (i := 11) rfl))) (ty := (.array .int)) (by decide)
    have F_size_b30 : Fld Z h30 b30 "com/example/cosine/cosine/index/IntList" "size" "I" (.int (0 : Int32)) := D30 (Or.inl (hw _ (List.mem_of_getElem? (i := 18) rfl))) (ty := .int) (by decide)
    refine Goes.st (U' := T30.setTop (mkF m 14 #[.val (.int p1), .val (.int p2), .val (.int p3), .val (.int p4), .val (.int p5), .val (.int p6), .val (.int (2 : Int32)), .val (.int (p6 ^^^ (-1 : Int32))), .unset, .unset, .unset] [(.ref b30)])) (fun t k => st30 t k) ?_
    refine Goes.st (U' := T30.setTop (mkF m 15 #[.val (.int p1), .val (.int p2), .val (.int p3), .val (.int p4), .val (.int p5), .val (.int p6), .val (.int (2 : Int32)), .val (.int (p6 ^^^ (-1 : Int32))), .unset, .unset, .unset] [(.ref b30), (.ref b30)])) (fun t k => XS.dup X30.here hx rfl (hb hby at_14) rfl rfl k) ?_
    refine Goes.st (U' := T30.setTop (mkF m 16 #[.val (.int p1), .val (.int p2), .val (.int p3), .val (.int p4), .val (.int p5), .val (.int p6), .val (.int (2 : Int32)), .val (.int (p6 ^^^ (-1 : Int32))), .unset, .unset, .unset] [(.int p1), (.ref b30), (.ref b30)])) (fun t k => XS.iloadN X30.here hx rfl (hb hby at_15) rfl k) ?_
    refine Goes.st (U' := T30.setTop (mkF m 17 #[.val (.int p1), .val (.int p2), .val (.int p3), .val (.int p4), .val (.int p5), .val (.int p6), .val (.int (2 : Int32)), .val (.int (p6 ^^^ (-1 : Int32))), .unset, .unset, .unset] [(.int (3 : Int32)), (.int p1), (.ref b30), (.ref b30)])) (fun t k => XS.iconst X30.here hx rfl (hb hby at_16) k) ?_
    refine Goes.st (U' := T30.setTop (mkF m 18 #[.val (.int p1), .val (.int p2), .val (.int p3), .val (.int p4), .val (.int p5), .val (.int p6), .val (.int (2 : Int32)), .val (.int (p6 ^^^ (-1 : Int32))), .unset, .unset, .unset] [(.int (p1 &&& (3 : Int32))), (.ref b30), (.ref b30)])) (fun t k => XS.iand X30.here hx rfl (hb hby at_17) rfl k) ?_
    obtain ⟨_, _, ⟨T31, L31, k31, n31⟩, -, X31, ⟨Lc31, hQ31, l31, y31, z31⟩, st31⟩ := X30.specialBack hx (y := (⟨"com/example/cosine/cosine/index/IntList", "<init>", "(I)V"⟩ : MethodName)) rfl hown (mvT hZ (hw _ (List.mem_of_getElem? (i := 3) rfl))) (mvT hZ (hw _ (List.mem_of_getElem? (i := 4) rfl))) (mvT hZ (hw _ (List.mem_of_getElem? (i := 5) rfl))) (by decide) (backOf (W := 1) (rm1 l Z a0 hw [] b30 (p1 &&& (3 : Int32)) h30 n0 (Nat.le_trans Z0 E30.1) (A30) (F_values_b30) (F_size_b30) (g_b30) ((own_cap p1).1) ((own_cap p1).2)) hZ (hw _ (List.mem_of_getElem? (i := 5) rfl)) (hw _ (List.mem_of_getElem? (i := 2) rfl)) (by decide) (by decide)) (g := (mkF m 18 #[.val (.int p1), .val (.int p2), .val (.int p3), .val (.int p4), .val (.int p5), .val (.int p6), .val (.int (2 : Int32)), .val (.int (p6 ^^^ (-1 : Int32))), .unset, .unset, .unset] [(.int (p1 &&& (3 : Int32))), (.ref b30), (.ref b30)])) rfl (by rw [hml]; rfl) (Steps.refl _) (a := b30) (argsL := [(.int (p1 &&& (3 : Int32)))]) (rest := [(.ref b30)]) (lenOf pd_3 rfl) rfl (by show 2 * 0 + _ ≤ _; exact Nat.le_of_eq rfl) (hb hby at_18) (fun _ _ => ⟨rfl, e30, (by decide : 1 + 1 ≤ _), (by decide : 2 + 8 ≤ _)⟩)
    dsimp only [Pt.U, Pt.locs, Pt.cells, Pt.slots] at X31 l31 y31 z31 st31 hQ31
    subst l31 y31 z31
    obtain ⟨rfl, N31q, K31, ar31, ka31, I31, g_ar31, u31⟩ := hQ31
    have N31 := Fr.app N0 N31q
    have ne_b30_ar31 : b30 ≠ ar31 := Nat.ne_of_lt (Nat.lt_of_lt_of_le A30.lt u31)
    refine Goes.tr (U' := T31.setTop (mkF m 21 #[.val (.int p1), .val (.int p2), .val (.int p3), .val (.int p4), .val (.int p5), .val (.int p6), .val (.int (2 : Int32)), .val (.int (p6 ^^^ (-1 : Int32))), .unset, .unset, .unset] [(.ref b30)])) st31 ?_
    refine Goes.st (U' := T31.setTop (mkF m 23 #[.val (.int p1), .val (.int p2), .val (.int p3), .val (.int p4), .val (.int p5), .val (.int p6), .val (.int (2 : Int32)), .val (.int (p6 ^^^ (-1 : Int32))), .val (.ref b30), .unset, .unset] [])) (fun t k => XS.astore X31.here hx rfl (hb hby at_21) rfl rfl (l' := #[.val (.int p1), .val (.int p2), .val (.int p3), .val (.int p4), .val (.int p5), .val (.int p6), .val (.int (2 : Int32)), .val (.int (p6 ^^^ (-1 : Int32))), .val (.ref b30), .unset, .unset]) rfl k) ?_
    refine Goes.st (U' := T31.setTop (mkF m 25 #[.val (.int p1), .val (.int p2), .val (.int p3), .val (.int p4), .val (.int p5), .val (.int p6), .val (.int (2 : Int32)), .val (.int (p6 ^^^ (-1 : Int32))), .val (.ref b30), .unset, .unset] [(.int (2 : Int32))])) (fun t k => XS.iload X31.here hx rfl (hb hby at_23) rfl k) ?_
    refine Goes.st (U' := T31.setTop (mkF m 28 #[.val (.int p1), .val (.int p2), .val (.int p3), .val (.int p4), .val (.int p5), .val (.int p6), .val (.int (2 : Int32)), .val (.int (p6 ^^^ (-1 : Int32))), .val (.ref b30), .unset, .unset] [])) (fun t k => XS.ifNo X31.here hx rfl (hb hby at_25) rfl ((if0 _ _).trans (tlt (by decide : (0 : Int32) < (2 : Int32))).2.2.2) k) ?_
    refine Goes.st (U' := T31.setTop (mkF m 30 #[.val (.int p1), .val (.int p2), .val (.int p3), .val (.int p4), .val (.int p5), .val (.int p6), .val (.int (2 : Int32)), .val (.int (p6 ^^^ (-1 : Int32))), .val (.ref b30), .unset, .unset] [(.ref b30)])) (fun t k => XS.aload X31.here hx rfl (hb hby at_28) rfl rfl k) ?_
    refine Goes.st (U' := T31.setTop (mkF m 31 #[.val (.int p1), .val (.int p2), .val (.int p3), .val (.int p4), .val (.int p5), .val (.int p6), .val (.int (2 : Int32)), .val (.int (p6 ^^^ (-1 : Int32))), .val (.ref b30), .unset, .unset] [(.int p3), (.ref b30)])) (fun t k => XS.iloadN X31.here hx rfl (hb hby at_30) rfl k) ?_
    obtain ⟨cq32, kq32, q32a, q32b, q32c⟩ := isOf hZ rfl I31.1
    obtain ⟨_, _, ⟨T32, L32, k32, n32⟩, -, X32, ⟨Lc32, hQ32, l32, y32, z32⟩, st32⟩ := X31.virtualBack hx (y := (⟨"com/example/cosine/cosine/index/IntList", "add", "(I)V"⟩ : MethodName)) (z := (⟨"com/example/cosine/cosine/index/IntList", "add", "(I)V"⟩ : MethodName)) hown (mvT hZ (hw _ (List.mem_of_getElem? (i := 12) rfl))) (mvT hZ (hw _ (List.mem_of_getElem? (i := 13) rfl))) (notFace_of_selects (args := #[]) (mvT hZ (hw _ (List.mem_of_getElem? (i := 15) rfl)))) (mvT hZ (hw _ (List.mem_of_getElem? (i := 15) rfl))) (mvT hZ (hw _ (List.mem_of_getElem? (i := 14) rfl))) (by decide) (backOf (W := 0) (rm3 l Z a0 hw [] b30 p3 ar31 ka31 (p1 &&& (3 : Int32)) [] T31.heap n0 (Nat.le_trans (Nat.le_trans Z0 E30.1) K31.1) (I31) ((Nat.le_of_ble_eq_true rfl)) (g_b30) (g_ar31)) hZ (hw _ (List.mem_of_getElem? (i := 16) rfl)) (hw _ (List.mem_of_getElem? (i := 2) rfl)) (by decide) (by decide)) q32a q32c (g := (mkF m 31 #[.val (.int p1), .val (.int p2), .val (.int p3), .val (.int p4), .val (.int p5), .val (.int p6), .val (.int (2 : Int32)), .val (.int (p6 ^^^ (-1 : Int32))), .val (.ref b30), .unset, .unset] [(.int p3), (.ref b30)])) rfl (by rw [hml]; rfl) (Steps.refl _) (argsL := [(.int p3)]) (rest := []) (lenOf pd_3 rfl) rfl (by show 2 * 0 + _ ≤ _; exact Nat.le_of_eq rfl) (hb hby at_31) (fun _ _ => ⟨rfl, rfl, (by decide : 2 + 1 ≤ _), (by decide : 10 + 8 ≤ _)⟩)
    dsimp only [Pt.U, Pt.locs, Pt.cells, Pt.slots] at X32 l32 y32 z32 st32 hQ32
    subst l32 y32 z32
    obtain ⟨rfl, N32q, K32, ar32, ka32, za32, I32, g_ar32, u32⟩ := hQ32
    have N32 := Fr.app N31 N32q
    have ne_b30_ar32 : b30 ≠ ar32 := I32.2.2.2.2.2.2.2.2
    refine Goes.tr (U' := T32.setTop (mkF m 34 #[.val (.int p1), .val (.int p2), .val (.int p3), .val (.int p4), .val (.int p5), .val (.int p6), .val (.int (2 : Int32)), .val (.int (p6 ^^^ (-1 : Int32))), .val (.ref b30), .unset, .unset] [])) st32 ?_
    refine Goes.st (U' := T32.setTop (mkF m 36 #[.val (.int p1), .val (.int p2), .val (.int p3), .val (.int p4), .val (.int p5), .val (.int p6), .val (.int (2 : Int32)), .val (.int (p6 ^^^ (-1 : Int32))), .val (.ref b30), .unset, .unset] [(.int (2 : Int32))])) (fun t k => XS.iload X32.here hx rfl (hb hby at_34) rfl k) ?_
    refine Goes.st (U' := T32.setTop (mkF m 37 #[.val (.int p1), .val (.int p2), .val (.int p3), .val (.int p4), .val (.int p5), .val (.int p6), .val (.int (2 : Int32)), .val (.int (p6 ^^^ (-1 : Int32))), .val (.ref b30), .unset, .unset] [(.int (1 : Int32)), (.int (2 : Int32))])) (fun t k => XS.iconst X32.here hx rfl (hb hby at_36) k) ?_
    refine Goes.st (U' := T32.setTop (mkF m 40 #[.val (.int p1), .val (.int p2), .val (.int p3), .val (.int p4), .val (.int p5), .val (.int p6), .val (.int (2 : Int32)), .val (.int (p6 ^^^ (-1 : Int32))), .val (.ref b30), .unset, .unset] [])) (fun t k => XS.icmpNo X32.here hx rfl (hb hby at_37) rfl (tlt (by decide : (1 : Int32) < (2 : Int32))).2.2.2 k) ?_
    refine Goes.st (U' := T32.setTop (mkF m 42 #[.val (.int p1), .val (.int p2), .val (.int p3), .val (.int p4), .val (.int p5), .val (.int p6), .val (.int (2 : Int32)), .val (.int (p6 ^^^ (-1 : Int32))), .val (.ref b30), .unset, .unset] [(.ref b30)])) (fun t k => XS.aload X32.here hx rfl (hb hby at_40) rfl rfl k) ?_
    refine Goes.st (U' := T32.setTop (mkF m 43 #[.val (.int p1), .val (.int p2), .val (.int p3), .val (.int p4), .val (.int p5), .val (.int p6), .val (.int (2 : Int32)), .val (.int (p6 ^^^ (-1 : Int32))), .val (.ref b30), .unset, .unset] [(.int p4), (.ref b30)])) (fun t k => XS.iloadN X32.here hx rfl (hb hby at_42) rfl k) ?_
    obtain ⟨cq33, kq33, q33a, q33b, q33c⟩ := isOf hZ rfl I32.1
    obtain ⟨_, _, ⟨T33, L33, k33, n33⟩, -, X33, ⟨Lc33, hQ33, l33, y33, z33⟩, st33⟩ := X32.virtualBack hx (y := (⟨"com/example/cosine/cosine/index/IntList", "add", "(I)V"⟩ : MethodName)) (z := (⟨"com/example/cosine/cosine/index/IntList", "add", "(I)V"⟩ : MethodName)) hown (mvT hZ (hw _ (List.mem_of_getElem? (i := 12) rfl))) (mvT hZ (hw _ (List.mem_of_getElem? (i := 13) rfl))) (notFace_of_selects (args := #[]) (mvT hZ (hw _ (List.mem_of_getElem? (i := 15) rfl)))) (mvT hZ (hw _ (List.mem_of_getElem? (i := 15) rfl))) (mvT hZ (hw _ (List.mem_of_getElem? (i := 14) rfl))) (by decide) (backOf (W := 0) (rm3 l Z a0 hw [] b30 p4 ar32 ka32 za32 [p3] T32.heap n0 (Nat.le_trans (Nat.le_trans (Nat.le_trans Z0 E30.1) K31.1) K32.1) (I32) ((Nat.le_of_ble_eq_true rfl)) (g_b30) (g_ar32)) hZ (hw _ (List.mem_of_getElem? (i := 16) rfl)) (hw _ (List.mem_of_getElem? (i := 2) rfl)) (by decide) (by decide)) q33a q33c (g := (mkF m 43 #[.val (.int p1), .val (.int p2), .val (.int p3), .val (.int p4), .val (.int p5), .val (.int p6), .val (.int (2 : Int32)), .val (.int (p6 ^^^ (-1 : Int32))), .val (.ref b30), .unset, .unset] [(.int p4), (.ref b30)])) rfl (by rw [hml]; rfl) (Steps.refl _) (argsL := [(.int p4)]) (rest := []) (lenOf pd_3 rfl) rfl (by show 2 * 0 + _ ≤ _; exact Nat.le_of_eq rfl) (hb hby at_43) (fun _ _ => ⟨rfl, rfl, (by decide : 3 + 1 ≤ _), (by decide : 18 + 8 ≤ _)⟩)
    dsimp only [Pt.U, Pt.locs, Pt.cells, Pt.slots] at X33 l33 y33 z33 st33 hQ33
    subst l33 y33 z33
    obtain ⟨rfl, N33q, K33, ar33, ka33, za33, I33, g_ar33, u33⟩ := hQ33
    have N33 := Fr.app N32 N33q
    have ne_b30_ar33 : b30 ≠ ar33 := I33.2.2.2.2.2.2.2.2
    refine Goes.tr (U' := T33.setTop (mkF m 46 #[.val (.int p1), .val (.int p2), .val (.int p3), .val (.int p4), .val (.int p5), .val (.int p6), .val (.int (2 : Int32)), .val (.int (p6 ^^^ (-1 : Int32))), .val (.ref b30), .unset, .unset] [])) st33 ?_
    refine Goes.st (U' := T33.setTop (mkF m 48 #[.val (.int p1), .val (.int p2), .val (.int p3), .val (.int p4), .val (.int p5), .val (.int p6), .val (.int (2 : Int32)), .val (.int (p6 ^^^ (-1 : Int32))), .val (.ref b30), .unset, .unset] [(.int (2 : Int32))])) (fun t k => XS.iload X33.here hx rfl (hb hby at_46) rfl k) ?_
    refine Goes.st (U' := T33.setTop (mkF m 49 #[.val (.int p1), .val (.int p2), .val (.int p3), .val (.int p4), .val (.int p5), .val (.int p6), .val (.int (2 : Int32)), .val (.int (p6 ^^^ (-1 : Int32))), .val (.ref b30), .unset, .unset] [(.int (2 : Int32)), (.int (2 : Int32))])) (fun t k => XS.iconst X33.here hx rfl (hb hby at_48) k) ?_
    refine Goes.st (U' := T33.setTop (mkF m 59 #[.val (.int p1), .val (.int p2), .val (.int p3), .val (.int p4), .val (.int p5), .val (.int p6), .val (.int (2 : Int32)), .val (.int (p6 ^^^ (-1 : Int32))), .val (.ref b30), .unset, .unset] [])) (fun t k => XS.icmpYes X33.here hx rfl (pc0 := 49) (pc' := 59) rfl (hb hby at_49) rfl (flt (by decide : ¬ ((2 : Int32) < (2 : Int32)))).2.2.2 (by decide) (by decide) k) ?_
    refine Goes.st (U' := T33.setTop (mkF m 61 #[.val (.int p1), .val (.int p2), .val (.int p3), .val (.int p4), .val (.int p5), .val (.int p6), .val (.int (2 : Int32)), .val (.int (p6 ^^^ (-1 : Int32))), .val (.ref b30), .unset, .unset] [(.ref b30)])) (fun t k => XS.aload X33.here hx rfl (hb hby at_59) rfl rfl k) ?_
    obtain ⟨cq34, kq34, q34a, q34b, q34c⟩ := isOf hZ rfl I33.1
    obtain ⟨_, _, ⟨T34, L34, k34, n34⟩, -, X34, ⟨Lc34, hQ34, l34, y34, z34⟩, st34⟩ := X33.virtualBack hx (y := (⟨"com/example/cosine/cosine/index/IntList", "copy", "()Lcom/example/cosine/cosine/index/IntList;"⟩ : MethodName)) (z := (⟨"com/example/cosine/cosine/index/IntList", "copy", "()Lcom/example/cosine/cosine/index/IntList;"⟩ : MethodName)) hown (mvT hZ (hw _ (List.mem_of_getElem? (i := 40) rfl))) (mvT hZ (hw _ (List.mem_of_getElem? (i := 41) rfl))) (notFace_of_selects (args := #[]) (mvT hZ (hw _ (List.mem_of_getElem? (i := 43) rfl)))) (mvT hZ (hw _ (List.mem_of_getElem? (i := 43) rfl))) (mvT hZ (hw _ (List.mem_of_getElem? (i := 42) rfl))) (by decide) (backOf (W := 0) (rm8 l Z a0 hw [] b30 ar33 ka33 za33 [p3, p4] T33.heap n0 (Nat.le_trans (Nat.le_trans (Nat.le_trans (Nat.le_trans Z0 E30.1) K31.1) K32.1) K33.1) (I33) ((Nat.le_of_ble_eq_true rfl))) hZ (hw _ (List.mem_of_getElem? (i := 44) rfl)) (hw _ (List.mem_of_getElem? (i := 2) rfl)) (by decide) (by decide)) q34a q34c (g := (mkF m 61 #[.val (.int p1), .val (.int p2), .val (.int p3), .val (.int p4), .val (.int p5), .val (.int p6), .val (.int (2 : Int32)), .val (.int (p6 ^^^ (-1 : Int32))), .val (.ref b30), .unset, .unset] [(.ref b30)])) rfl (by rw [hml]; rfl) (Steps.refl _) (argsL := []) (rest := []) (lenOf pd_4 rfl) rfl (by show 2 * 0 + _ ≤ _; exact Nat.le_of_eq rfl) (hb hby at_61) (fun _ _ => ⟨rfl, rfl, (by decide : 4 + 3 ≤ _), (by decide : 26 + 18 ≤ _)⟩)
    dsimp only [Pt.U, Pt.locs, Pt.cells, Pt.slots] at X34 l34 y34 z34 st34 hQ34
    subst l34 y34 z34
    obtain ⟨cc34, ca34, kc34, rfl, N34q, K34, I34, g_cc34, g_ca34, u34, w34⟩ := hQ34
    have N34 := Fr.app N33 N34q
    have ne_ar33_cc34 : ar33 ≠ cc34 := Nat.ne_of_lt (Nat.lt_of_lt_of_le I33.2.2.2.2.1.lt u34)
    have ne_b30_cc34 : b30 ≠ cc34 := Nat.ne_of_lt (Nat.lt_of_lt_of_le I33.1.lt u34)
    have ne_ar33_ca34 : ar33 ≠ ca34 := Nat.ne_of_lt (Nat.lt_of_lt_of_le I33.2.2.2.2.1.lt w34)
    have ne_b30_ca34 : b30 ≠ ca34 := Nat.ne_of_lt (Nat.lt_of_lt_of_le I33.1.lt w34)
    have ne_cc34_ca34 : cc34 ≠ ca34 := I34.2.2.2.2.2.2.2.2
    have IK35 := IL.keep I33 K34 nin0 nin0
    refine Goes.tr (U' := T34.setTop (mkF m 64 #[.val (.int p1), .val (.int p2), .val (.int p3), .val (.int p4), .val (.int p5), .val (.int p6), .val (.int (2 : Int32)), .val (.int (p6 ^^^ (-1 : Int32))), .val (.ref b30), .unset, .unset] [(.ref cc34)])) st34 ?_
    refine Goes.st (U' := T34.setTop (mkF m 66 #[.val (.int p1), .val (.int p2), .val (.int p3), .val (.int p4), .val (.int p5), .val (.int p6), .val (.int (2 : Int32)), .val (.int (p6 ^^^ (-1 : Int32))), .val (.ref b30), .val (.ref cc34), .unset] [])) (fun t k => XS.astore X34.here hx rfl (hb hby at_64) rfl rfl (l' := #[.val (.int p1), .val (.int p2), .val (.int p3), .val (.int p4), .val (.int p5), .val (.int p6), .val (.int (2 : Int32)), .val (.int (p6 ^^^ (-1 : Int32))), .val (.ref b30), .val (.ref cc34), .unset]) rfl k) ?_
    refine Goes.st (U' := T34.setTop (mkF m 68 #[.val (.int p1), .val (.int p2), .val (.int p3), .val (.int p4), .val (.int p5), .val (.int p6), .val (.int (2 : Int32)), .val (.int (p6 ^^^ (-1 : Int32))), .val (.ref b30), .val (.ref cc34), .unset] [(.ref cc34)])) (fun t k => XS.aload X34.here hx rfl (hb hby at_66) rfl rfl k) ?_
    obtain ⟨cq36, kq36, q36a, q36b, q36c⟩ := isOf hZ rfl I34.1
    obtain ⟨_, _, ⟨T36, L36, k36, n36⟩, -, X36, ⟨Lc36, hQ36, l36, y36, z36⟩, st36⟩ := X34.virtualBack hx (y := (⟨"com/example/cosine/cosine/index/IntList", "size", "()I"⟩ : MethodName)) (z := (⟨"com/example/cosine/cosine/index/IntList", "size", "()I"⟩ : MethodName)) hown (mvT hZ (hw _ (List.mem_of_getElem? (i := 47) rfl))) (mvT hZ (hw _ (List.mem_of_getElem? (i := 48) rfl))) (notFace_of_selects (args := #[]) (mvT hZ (hw _ (List.mem_of_getElem? (i := 50) rfl)))) (mvT hZ (hw _ (List.mem_of_getElem? (i := 50) rfl))) (mvT hZ (hw _ (List.mem_of_getElem? (i := 49) rfl))) (by decide) (backOf (W := 0) (rm9 l Z a0 hw [] cc34 ca34 kc34 ([p3, p4].length.toInt32) [p3, p4] T34.heap n0 (Nat.le_trans (Nat.le_trans (Nat.le_trans (Nat.le_trans (Nat.le_trans Z0 E30.1) K31.1) K32.1) K33.1) K34.1) (I34)) hZ (hw _ (List.mem_of_getElem? (i := 51) rfl)) (hw _ (List.mem_of_getElem? (i := 2) rfl)) (by decide) (by decide)) q36a q36c (g := (mkF m 68 #[.val (.int p1), .val (.int p2), .val (.int p3), .val (.int p4), .val (.int p5), .val (.int p6), .val (.int (2 : Int32)), .val (.int (p6 ^^^ (-1 : Int32))), .val (.ref b30), .val (.ref cc34), .unset] [(.ref cc34)])) rfl (by rw [hml]; rfl) (Steps.refl _) (argsL := []) (rest := []) (lenOf pd_5 rfl) rfl (by show 2 * 0 + _ ≤ _; exact Nat.le_of_eq rfl) (hb hby at_68) (fun _ _ => ⟨rfl, rfl, (by decide : 7 + 0 ≤ _), (by decide : 44 + 0 ≤ _)⟩)
    dsimp only [Pt.U, Pt.locs, Pt.cells, Pt.slots] at X36 l36 y36 z36 st36 hQ36
    subst l36 y36 z36
    obtain ⟨rfl, N36q, e36⟩ := hQ36
    have N36 := Fr.app N34 N36q
    replace e36 := e36
    refine Goes.tr (U' := T36.setTop (mkF m 71 #[.val (.int p1), .val (.int p2), .val (.int p3), .val (.int p4), .val (.int p5), .val (.int p6), .val (.int (2 : Int32)), .val (.int (p6 ^^^ (-1 : Int32))), .val (.ref b30), .val (.ref cc34), .unset] [(.int (2 : Int32))])) st36 ?_
    refine Goes.st (U' := T36.setTop (mkF m 73 #[.val (.int p1), .val (.int p2), .val (.int p3), .val (.int p4), .val (.int p5), .val (.int p6), .val (.int (2 : Int32)), .val (.int (p6 ^^^ (-1 : Int32))), .val (.ref b30), .val (.ref cc34), .unset] [(.int (2 : Int32)), (.int (2 : Int32))])) (fun t k => XS.iload X36.here hx rfl (hb hby at_71) rfl k) ?_
    refine Goes.st (U' := T36.setTop (mkF m 76 #[.val (.int p1), .val (.int p2), .val (.int p3), .val (.int p4), .val (.int p5), .val (.int p6), .val (.int (2 : Int32)), .val (.int (p6 ^^^ (-1 : Int32))), .val (.ref b30), .val (.ref cc34), .unset] [])) (fun t k => XS.icmpNo X36.here hx rfl (hb hby at_73) rfl (teq (rfl : (2 : Int32) = (2 : Int32))).2 k) ?_
    refine Goes.st (U' := T36.setTop (mkF m 77 #[.val (.int p1), .val (.int p2), .val (.int p3), .val (.int p4), .val (.int p5), .val (.int p6), .val (.int (2 : Int32)), .val (.int (p6 ^^^ (-1 : Int32))), .val (.ref b30), .val (.ref cc34), .unset] [(.int (1 : Int32))])) (fun t k => XS.iconst X36.here hx rfl (hb hby at_76) k) ?_
    refine Goes.st (U' := T36.setTop (mkF m 81 #[.val (.int p1), .val (.int p2), .val (.int p3), .val (.int p4), .val (.int p5), .val (.int p6), .val (.int (2 : Int32)), .val (.int (p6 ^^^ (-1 : Int32))), .val (.ref b30), .val (.ref cc34), .unset] [(.int (1 : Int32))])) (fun t k => XS.goto X36.here hx rfl (pc0 := 77) (pc' := 81) rfl (hb hby at_77) (by decide) (by decide) k) ?_
    refine Goes.st (U' := T36.setTop (mkF m 83 #[.val (.int p1), .val (.int p2), .val (.int p3), .val (.int p4), .val (.int p5), .val (.int p6), .val (.int (2 : Int32)), .val (.int (p6 ^^^ (-1 : Int32))), .val (.ref b30), .val (.ref cc34), .val (.int (1 : Int32))] [])) (fun t k => XS.istore X36.here hx rfl (hb hby at_81) rfl (l' := #[.val (.int p1), .val (.int p2), .val (.int p3), .val (.int p4), .val (.int p5), .val (.int p6), .val (.int (2 : Int32)), .val (.int (p6 ^^^ (-1 : Int32))), .val (.ref b30), .val (.ref cc34), .val (.int (1 : Int32))]) rfl k) ?_
    refine Goes.st (U' := T36.setTop (mkF m 85 #[.val (.int p1), .val (.int p2), .val (.int p3), .val (.int p4), .val (.int p5), .val (.int p6), .val (.int (2 : Int32)), .val (.int (p6 ^^^ (-1 : Int32))), .val (.ref b30), .val (.ref cc34), .val (.int (1 : Int32))] [(.ref cc34)])) (fun t k => XS.aload X36.here hx rfl (hb hby at_83) rfl rfl k) ?_
    refine Goes.st (U' := T36.setTop (mkF m 87 #[.val (.int p1), .val (.int p2), .val (.int p3), .val (.int p4), .val (.int p5), .val (.int p6), .val (.int (2 : Int32)), .val (.int (p6 ^^^ (-1 : Int32))), .val (.ref b30), .val (.ref cc34), .val (.int (1 : Int32))] [(.int p6), (.ref cc34)])) (fun t k => XS.iload X36.here hx rfl (hb hby at_85) rfl k) ?_
    obtain ⟨cq37, kq37, q37a, q37b, q37c⟩ := isOf hZ e36 I34.1
    obtain ⟨_, _, ⟨T37, L37, k37, n37⟩, -, X37, ⟨Lc37, hQ37, l37, y37, z37⟩, st37⟩ := X36.virtualBack hx (y := (⟨"com/example/cosine/cosine/index/IntList", "add", "(I)V"⟩ : MethodName)) (z := (⟨"com/example/cosine/cosine/index/IntList", "add", "(I)V"⟩ : MethodName)) hown (mvT hZ (hw _ (List.mem_of_getElem? (i := 12) rfl))) (mvT hZ (hw _ (List.mem_of_getElem? (i := 13) rfl))) (notFace_of_selects (args := #[]) (mvT hZ (hw _ (List.mem_of_getElem? (i := 15) rfl)))) (mvT hZ (hw _ (List.mem_of_getElem? (i := 15) rfl))) (mvT hZ (hw _ (List.mem_of_getElem? (i := 14) rfl))) (by decide) (backOf (W := 0) (rm3 l Z a0 hw [] cc34 p6 ca34 kc34 ([p3, p4].length.toInt32) [p3, p4] T34.heap n0 (Nat.le_trans (Nat.le_trans (Nat.le_trans (Nat.le_trans (Nat.le_trans Z0 E30.1) K31.1) K32.1) K33.1) K34.1) (I34) ((Nat.le_of_ble_eq_true rfl)) (g_cc34) (g_ca34)) hZ (hw _ (List.mem_of_getElem? (i := 16) rfl)) (hw _ (List.mem_of_getElem? (i := 2) rfl)) (by decide) (by decide)) q37a q37c (g := (mkF m 87 #[.val (.int p1), .val (.int p2), .val (.int p3), .val (.int p4), .val (.int p5), .val (.int p6), .val (.int (2 : Int32)), .val (.int (p6 ^^^ (-1 : Int32))), .val (.ref b30), .val (.ref cc34), .val (.int (1 : Int32))] [(.int p6), (.ref cc34)])) rfl (by rw [hml]; rfl) (Steps.refl _) (argsL := [(.int p6)]) (rest := []) (lenOf pd_3 rfl) rfl (by show 2 * 0 + _ ≤ _; exact Nat.le_of_eq rfl) (hb hby at_87) (fun _ _ => ⟨rfl, e36, (by decide : 7 + 1 ≤ _), (by decide : 44 + 8 ≤ _)⟩)
    dsimp only [Pt.U, Pt.locs, Pt.cells, Pt.slots] at X37 l37 y37 z37 st37 hQ37
    subst l37 y37 z37
    obtain ⟨rfl, N37q, K37, ar37, ka37, za37, I37, g_ar37, u37⟩ := hQ37
    have N37 := Fr.app N36 N37q
    have ne_ar33_ar37 : ar33 ≠ ar37 := u37.elim (fun q => q ▸ ne_ar33_ca34) (fun q => Nat.ne_of_lt (Nat.lt_of_lt_of_le (I33.2.2.2.2.1.keep K34).lt q))
    have ne_b30_ar37 : b30 ≠ ar37 := u37.elim (fun q => q ▸ ne_b30_ca34) (fun q => Nat.ne_of_lt (Nat.lt_of_lt_of_le (I33.1.keep K34).lt q))
    have ne_cc34_ar37 : cc34 ≠ ar37 := I37.2.2.2.2.2.2.2.2
    have IK38 := IL.keep IK35 K37 (ninS ne_b30_cc34 (ninS ne_b30_ca34 nin0)) (ninS ne_ar33_cc34 (ninS ne_ar33_ca34 nin0))
    refine Goes.tr (U' := T37.setTop (mkF m 90 #[.val (.int p1), .val (.int p2), .val (.int p3), .val (.int p4), .val (.int p5), .val (.int p6), .val (.int (2 : Int32)), .val (.int (p6 ^^^ (-1 : Int32))), .val (.ref b30), .val (.ref cc34), .val (.int (1 : Int32))] [])) st37 ?_
    refine Goes.st (U' := T37.setTop (mkF m 92 #[.val (.int p1), .val (.int p2), .val (.int p3), .val (.int p4), .val (.int p5), .val (.int p6), .val (.int (2 : Int32)), .val (.int (p6 ^^^ (-1 : Int32))), .val (.ref b30), .val (.ref cc34), .val (.int (1 : Int32))] [(.ref b30)])) (fun t k => XS.aload X37.here hx rfl (hb hby at_90) rfl rfl k) ?_
    refine Goes.st (U' := T37.setTop (mkF m 94 #[.val (.int p1), .val (.int p2), .val (.int p3), .val (.int p4), .val (.int p5), .val (.int p6), .val (.int (2 : Int32)), .val (.int (p6 ^^^ (-1 : Int32))), .val (.ref b30), .val (.ref cc34), .val (.int (1 : Int32))] [(.int (p6 ^^^ (-1 : Int32))), (.ref b30)])) (fun t k => XS.iload X37.here hx rfl (hb hby at_92) rfl k) ?_
    obtain ⟨cq39, kq39, q39a, q39b, q39c⟩ := isOf hZ rfl ((I33.1.keep K34).keep K37)
    obtain ⟨_, _, ⟨T39, L39, k39, n39⟩, -, X39, ⟨Lc39, hQ39, l39, y39, z39⟩, st39⟩ := X37.virtualBack hx (y := (⟨"com/example/cosine/cosine/index/IntList", "add", "(I)V"⟩ : MethodName)) (z := (⟨"com/example/cosine/cosine/index/IntList", "add", "(I)V"⟩ : MethodName)) hown (mvT hZ (hw _ (List.mem_of_getElem? (i := 12) rfl))) (mvT hZ (hw _ (List.mem_of_getElem? (i := 13) rfl))) (notFace_of_selects (args := #[]) (mvT hZ (hw _ (List.mem_of_getElem? (i := 15) rfl)))) (mvT hZ (hw _ (List.mem_of_getElem? (i := 15) rfl))) (mvT hZ (hw _ (List.mem_of_getElem? (i := 14) rfl))) (by decide) (backOf (W := 0) (rm3 l Z a0 hw [] b30 (p6 ^^^ (-1 : Int32)) ar33 ka33 za33 [p3, p4] T37.heap n0 (Nat.le_trans (Nat.le_trans (Nat.le_trans (Nat.le_trans (Nat.le_trans (Nat.le_trans Z0 E30.1) K31.1) K32.1) K33.1) K34.1) K37.1) (IK38) ((Nat.le_of_ble_eq_true rfl)) (g_b30) (g_ar33)) hZ (hw _ (List.mem_of_getElem? (i := 16) rfl)) (hw _ (List.mem_of_getElem? (i := 2) rfl)) (by decide) (by decide)) q39a q39c (g := (mkF m 94 #[.val (.int p1), .val (.int p2), .val (.int p3), .val (.int p4), .val (.int p5), .val (.int p6), .val (.int (2 : Int32)), .val (.int (p6 ^^^ (-1 : Int32))), .val (.ref b30), .val (.ref cc34), .val (.int (1 : Int32))] [(.int (p6 ^^^ (-1 : Int32))), (.ref b30)])) rfl (by rw [hml]; rfl) (Steps.refl _) (argsL := [(.int (p6 ^^^ (-1 : Int32)))]) (rest := []) (lenOf pd_3 rfl) rfl (by show 2 * 0 + _ ≤ _; exact Nat.le_of_eq rfl) (hb hby at_94) (fun _ _ => ⟨rfl, rfl, (by decide : 8 + 1 ≤ _), (by decide : 52 + 8 ≤ _)⟩)
    dsimp only [Pt.U, Pt.locs, Pt.cells, Pt.slots] at X39 l39 y39 z39 st39 hQ39
    subst l39 y39 z39
    obtain ⟨rfl, N39q, K39, ar39, ka39, za39, I39, g_ar39, u39⟩ := hQ39
    have N39 := Fr.app N37 N39q
    have ne_ar37_ar39 : ar37 ≠ ar39 := u39.elim (fun q => q ▸ (Ne.symm ne_ar33_ar37)) (fun q => Nat.ne_of_lt (Nat.lt_of_lt_of_le I37.2.2.2.2.1.lt q))
    have ne_cc34_ar39 : cc34 ≠ ar39 := u39.elim (fun q => q ▸ (Ne.symm ne_ar33_cc34)) (fun q => Nat.ne_of_lt (Nat.lt_of_lt_of_le I37.1.lt q))
    have ne_b30_ar39 : b30 ≠ ar39 := I39.2.2.2.2.2.2.2.2
    have IK40 := IL.keep I37 K39 (ninS (Ne.symm ne_b30_cc34) (ninS (Ne.symm ne_ar33_cc34) nin0)) (ninS (Ne.symm ne_b30_ar37) (ninS (Ne.symm ne_ar33_ar37) nin0))
    refine Goes.tr (U' := T39.setTop (mkF m 97 #[.val (.int p1), .val (.int p2), .val (.int p3), .val (.int p4), .val (.int p5), .val (.int p6), .val (.int (2 : Int32)), .val (.int (p6 ^^^ (-1 : Int32))), .val (.ref b30), .val (.ref cc34), .val (.int (1 : Int32))] [])) st39 ?_
    refine Goes.st (U' := T39.setTop (mkF m 99 #[.val (.int p1), .val (.int p2), .val (.int p3), .val (.int p4), .val (.int p5), .val (.int p6), .val (.int (2 : Int32)), .val (.int (p6 ^^^ (-1 : Int32))), .val (.ref b30), .val (.ref cc34), .val (.int (1 : Int32))] [(.int (1 : Int32))])) (fun t k => XS.iload X39.here hx rfl (hb hby at_97) rfl k) ?_
    refine Goes.st (U' := T39.setTop (mkF m 102 #[.val (.int p1), .val (.int p2), .val (.int p3), .val (.int p4), .val (.int p5), .val (.int p6), .val (.int (2 : Int32)), .val (.int (p6 ^^^ (-1 : Int32))), .val (.ref b30), .val (.ref cc34), .val (.int (1 : Int32))] [])) (fun t k => XS.ifNo X39.here hx rfl (hb hby at_99) rfl ((if0 _ _).trans (feq (by decide : ¬ ((1 : Int32) = (0 : Int32)))).1) k) ?_
    refine Goes.st (U' := T39.setTop (mkF m 104 #[.val (.int p1), .val (.int p2), .val (.int p3), .val (.int p4), .val (.int p5), .val (.int p6), .val (.int (2 : Int32)), .val (.int (p6 ^^^ (-1 : Int32))), .val (.ref b30), .val (.ref cc34), .val (.int (1 : Int32))] [(.ref cc34)])) (fun t k => XS.aload X39.here hx rfl (hb hby at_102) rfl rfl k) ?_
    obtain ⟨cq41, kq41, q41a, q41b, q41c⟩ := isOf hZ rfl (I37.1.keep K39)
    obtain ⟨_, _, ⟨T41, L41, k41, n41⟩, -, X41, ⟨Lc41, hQ41, l41, y41, z41⟩, st41⟩ := X39.virtualBack hx (y := (⟨"com/example/cosine/cosine/index/IntList", "size", "()I"⟩ : MethodName)) (z := (⟨"com/example/cosine/cosine/index/IntList", "size", "()I"⟩ : MethodName)) hown (mvT hZ (hw _ (List.mem_of_getElem? (i := 47) rfl))) (mvT hZ (hw _ (List.mem_of_getElem? (i := 48) rfl))) (notFace_of_selects (args := #[]) (mvT hZ (hw _ (List.mem_of_getElem? (i := 50) rfl)))) (mvT hZ (hw _ (List.mem_of_getElem? (i := 50) rfl))) (mvT hZ (hw _ (List.mem_of_getElem? (i := 49) rfl))) (by decide) (backOf (W := 0) (rm9 l Z a0 hw [] cc34 ar37 ka37 za37 [p3, p4, p6] T39.heap n0 (Nat.le_trans (Nat.le_trans (Nat.le_trans (Nat.le_trans (Nat.le_trans (Nat.le_trans (Nat.le_trans Z0 E30.1) K31.1) K32.1) K33.1) K34.1) K37.1) K39.1) (IK40)) hZ (hw _ (List.mem_of_getElem? (i := 51) rfl)) (hw _ (List.mem_of_getElem? (i := 2) rfl)) (by decide) (by decide)) q41a q41c (g := (mkF m 104 #[.val (.int p1), .val (.int p2), .val (.int p3), .val (.int p4), .val (.int p5), .val (.int p6), .val (.int (2 : Int32)), .val (.int (p6 ^^^ (-1 : Int32))), .val (.ref b30), .val (.ref cc34), .val (.int (1 : Int32))] [(.ref cc34)])) rfl (by rw [hml]; rfl) (Steps.refl _) (argsL := []) (rest := []) (lenOf pd_5 rfl) rfl (by show 2 * 0 + _ ≤ _; exact Nat.le_of_eq rfl) (hb hby at_104) (fun _ _ => ⟨rfl, rfl, (by decide : 9 + 0 ≤ _), (by decide : 60 + 0 ≤ _)⟩)
    dsimp only [Pt.U, Pt.locs, Pt.cells, Pt.slots] at X41 l41 y41 z41 st41 hQ41
    subst l41 y41 z41
    obtain ⟨rfl, N41q, e41⟩ := hQ41
    have N41 := Fr.app N39 N41q
    replace e41 := e41
    refine Goes.tr (U' := T41.setTop (mkF m 107 #[.val (.int p1), .val (.int p2), .val (.int p3), .val (.int p4), .val (.int p5), .val (.int p6), .val (.int (2 : Int32)), .val (.int (p6 ^^^ (-1 : Int32))), .val (.ref b30), .val (.ref cc34), .val (.int (1 : Int32))] [(.int (3 : Int32))])) st41 ?_
    refine Goes.st (U' := T41.setTop (mkF m 109 #[.val (.int p1), .val (.int p2), .val (.int p3), .val (.int p4), .val (.int p5), .val (.int p6), .val (.int (2 : Int32)), .val (.int (p6 ^^^ (-1 : Int32))), .val (.ref b30), .val (.ref cc34), .val (.int (1 : Int32))] [(.int (2 : Int32)), (.int (3 : Int32))])) (fun t k => XS.iload X41.here hx rfl (hb hby at_107) rfl k) ?_
    refine Goes.st (U' := T41.setTop (mkF m 110 #[.val (.int p1), .val (.int p2), .val (.int p3), .val (.int p4), .val (.int p5), .val (.int p6), .val (.int (2 : Int32)), .val (.int (p6 ^^^ (-1 : Int32))), .val (.ref b30), .val (.ref cc34), .val (.int (1 : Int32))] [(.int (1 : Int32)), (.int (2 : Int32)), (.int (3 : Int32))])) (fun t k => XS.iconst X41.here hx rfl (hb hby at_109) k) ?_
    refine Goes.st (U' := T41.setTop (mkF m 111 #[.val (.int p1), .val (.int p2), .val (.int p3), .val (.int p4), .val (.int p5), .val (.int p6), .val (.int (2 : Int32)), .val (.int (p6 ^^^ (-1 : Int32))), .val (.ref b30), .val (.ref cc34), .val (.int (1 : Int32))] [(.int (3 : Int32)), (.int (3 : Int32))])) (fun t k => XS.iadd X41.here hx rfl (hb hby at_110) rfl k) ?_
    refine Goes.st (U' := T41.setTop (mkF m 114 #[.val (.int p1), .val (.int p2), .val (.int p3), .val (.int p4), .val (.int p5), .val (.int p6), .val (.int (2 : Int32)), .val (.int (p6 ^^^ (-1 : Int32))), .val (.ref b30), .val (.ref cc34), .val (.int (1 : Int32))] [])) (fun t k => XS.icmpNo X41.here hx rfl (hb hby at_111) rfl (teq (rfl : (3 : Int32) = (3 : Int32))).2 k) ?_
    refine Goes.st (U' := T41.setTop (mkF m 116 #[.val (.int p1), .val (.int p2), .val (.int p3), .val (.int p4), .val (.int p5), .val (.int p6), .val (.int (2 : Int32)), .val (.int (p6 ^^^ (-1 : Int32))), .val (.ref b30), .val (.ref cc34), .val (.int (1 : Int32))] [(.ref b30)])) (fun t k => XS.aload X41.here hx rfl (hb hby at_114) rfl rfl k) ?_
    obtain ⟨cq42, kq42, q42a, q42b, q42c⟩ := isOf hZ e41 I39.1
    obtain ⟨_, _, ⟨T42, L42, k42, n42⟩, -, X42, ⟨Lc42, hQ42, l42, y42, z42⟩, st42⟩ := X41.virtualBack hx (y := (⟨"com/example/cosine/cosine/index/IntList", "size", "()I"⟩ : MethodName)) (z := (⟨"com/example/cosine/cosine/index/IntList", "size", "()I"⟩ : MethodName)) hown (mvT hZ (hw _ (List.mem_of_getElem? (i := 47) rfl))) (mvT hZ (hw _ (List.mem_of_getElem? (i := 48) rfl))) (notFace_of_selects (args := #[]) (mvT hZ (hw _ (List.mem_of_getElem? (i := 50) rfl)))) (mvT hZ (hw _ (List.mem_of_getElem? (i := 50) rfl))) (mvT hZ (hw _ (List.mem_of_getElem? (i := 49) rfl))) (by decide) (backOf (W := 0) (rm9 l Z a0 hw [] b30 ar39 ka39 za39 [p3, p4, (p6 ^^^ (-1 : Int32))] T39.heap n0 (Nat.le_trans (Nat.le_trans (Nat.le_trans (Nat.le_trans (Nat.le_trans (Nat.le_trans (Nat.le_trans Z0 E30.1) K31.1) K32.1) K33.1) K34.1) K37.1) K39.1) (I39)) hZ (hw _ (List.mem_of_getElem? (i := 51) rfl)) (hw _ (List.mem_of_getElem? (i := 2) rfl)) (by decide) (by decide)) q42a q42c (g := (mkF m 116 #[.val (.int p1), .val (.int p2), .val (.int p3), .val (.int p4), .val (.int p5), .val (.int p6), .val (.int (2 : Int32)), .val (.int (p6 ^^^ (-1 : Int32))), .val (.ref b30), .val (.ref cc34), .val (.int (1 : Int32))] [(.ref b30)])) rfl (by rw [hml]; rfl) (Steps.refl _) (argsL := []) (rest := []) (lenOf pd_5 rfl) rfl (by show 2 * 0 + _ ≤ _; exact Nat.le_of_eq rfl) (hb hby at_116) (fun _ _ => ⟨rfl, e41, (by decide : 9 + 0 ≤ _), (by decide : 60 + 0 ≤ _)⟩)
    dsimp only [Pt.U, Pt.locs, Pt.cells, Pt.slots] at X42 l42 y42 z42 st42 hQ42
    subst l42 y42 z42
    obtain ⟨rfl, N42q, e42⟩ := hQ42
    have N42 := Fr.app N41 N42q
    replace e42 := e42
    refine Goes.tr (U' := T42.setTop (mkF m 119 #[.val (.int p1), .val (.int p2), .val (.int p3), .val (.int p4), .val (.int p5), .val (.int p6), .val (.int (2 : Int32)), .val (.int (p6 ^^^ (-1 : Int32))), .val (.ref b30), .val (.ref cc34), .val (.int (1 : Int32))] [(.int (3 : Int32))])) st42 ?_
    refine Goes.st (U' := T42.setTop (mkF m 121 #[.val (.int p1), .val (.int p2), .val (.int p3), .val (.int p4), .val (.int p5), .val (.int p6), .val (.int (2 : Int32)), .val (.int (p6 ^^^ (-1 : Int32))), .val (.ref b30), .val (.ref cc34), .val (.int (1 : Int32))] [(.int (2 : Int32)), (.int (3 : Int32))])) (fun t k => XS.iload X42.here hx rfl (hb hby at_119) rfl k) ?_
    refine Goes.st (U' := T42.setTop (mkF m 122 #[.val (.int p1), .val (.int p2), .val (.int p3), .val (.int p4), .val (.int p5), .val (.int p6), .val (.int (2 : Int32)), .val (.int (p6 ^^^ (-1 : Int32))), .val (.ref b30), .val (.ref cc34), .val (.int (1 : Int32))] [(.int (1 : Int32)), (.int (2 : Int32)), (.int (3 : Int32))])) (fun t k => XS.iconst X42.here hx rfl (hb hby at_121) k) ?_
    refine Goes.st (U' := T42.setTop (mkF m 123 #[.val (.int p1), .val (.int p2), .val (.int p3), .val (.int p4), .val (.int p5), .val (.int p6), .val (.int (2 : Int32)), .val (.int (p6 ^^^ (-1 : Int32))), .val (.ref b30), .val (.ref cc34), .val (.int (1 : Int32))] [(.int (3 : Int32)), (.int (3 : Int32))])) (fun t k => XS.iadd X42.here hx rfl (hb hby at_122) rfl k) ?_
    refine Goes.st (U' := T42.setTop (mkF m 126 #[.val (.int p1), .val (.int p2), .val (.int p3), .val (.int p4), .val (.int p5), .val (.int p6), .val (.int (2 : Int32)), .val (.int (p6 ^^^ (-1 : Int32))), .val (.ref b30), .val (.ref cc34), .val (.int (1 : Int32))] [])) (fun t k => XS.icmpNo X42.here hx rfl (hb hby at_123) rfl (teq (rfl : (3 : Int32) = (3 : Int32))).2 k) ?_
    refine Goes.st (U' := T42.setTop (mkF m 127 #[.val (.int p1), .val (.int p2), .val (.int p3), .val (.int p4), .val (.int p5), .val (.int p6), .val (.int (2 : Int32)), .val (.int (p6 ^^^ (-1 : Int32))), .val (.ref b30), .val (.ref cc34), .val (.int (1 : Int32))] [(.int (1 : Int32))])) (fun t k => XS.iconst X42.here hx rfl (hb hby at_126) k) ?_
    refine Goes.st (U' := T42.setTop (mkF m 131 #[.val (.int p1), .val (.int p2), .val (.int p3), .val (.int p4), .val (.int p5), .val (.int p6), .val (.int (2 : Int32)), .val (.int (p6 ^^^ (-1 : Int32))), .val (.ref b30), .val (.ref cc34), .val (.int (1 : Int32))] [(.int (1 : Int32))])) (fun t k => XS.goto X42.here hx rfl (pc0 := 127) (pc' := 131) rfl (hb hby at_127) (by decide) (by decide) k) ?_
    refine Goes.st (U' := T42.setTop (mkF m 133 #[.val (.int p1), .val (.int p2), .val (.int p3), .val (.int p4), .val (.int p5), .val (.int p6), .val (.int (2 : Int32)), .val (.int (p6 ^^^ (-1 : Int32))), .val (.ref b30), .val (.ref cc34), .val (.int (1 : Int32))] [])) (fun t k => XS.istore X42.here hx rfl (hb hby at_131) rfl (l' := #[.val (.int p1), .val (.int p2), .val (.int p3), .val (.int p4), .val (.int p5), .val (.int p6), .val (.int (2 : Int32)), .val (.int (p6 ^^^ (-1 : Int32))), .val (.ref b30), .val (.ref cc34), .val (.int (1 : Int32))]) rfl k) ?_
    refine Goes.st (U' := T42.setTop (mkF m 135 #[.val (.int p1), .val (.int p2), .val (.int p3), .val (.int p4), .val (.int p5), .val (.int p6), .val (.int (2 : Int32)), .val (.int (p6 ^^^ (-1 : Int32))), .val (.ref b30), .val (.ref cc34), .val (.int (1 : Int32))] [(.int (1 : Int32))])) (fun t k => XS.iload X42.here hx rfl (hb hby at_133) rfl k) ?_
    refine Goes.st (U' := T42.setTop (mkF m 138 #[.val (.int p1), .val (.int p2), .val (.int p3), .val (.int p4), .val (.int p5), .val (.int p6), .val (.int (2 : Int32)), .val (.int (p6 ^^^ (-1 : Int32))), .val (.ref b30), .val (.ref cc34), .val (.int (1 : Int32))] [])) (fun t k => XS.ifNo X42.here hx rfl (hb hby at_135) rfl ((if0 _ _).trans (feq (by decide : ¬ ((1 : Int32) = (0 : Int32)))).1) k) ?_
    refine Goes.st (U' := T42.setTop (mkF m 140 #[.val (.int p1), .val (.int p2), .val (.int p3), .val (.int p4), .val (.int p5), .val (.int p6), .val (.int (2 : Int32)), .val (.int (p6 ^^^ (-1 : Int32))), .val (.ref b30), .val (.ref cc34), .val (.int (1 : Int32))] [(.ref cc34)])) (fun t k => XS.aload X42.here hx rfl (hb hby at_138) rfl rfl k) ?_
    refine Goes.st (U' := T42.setTop (mkF m 142 #[.val (.int p1), .val (.int p2), .val (.int p3), .val (.int p4), .val (.int p5), .val (.int p6), .val (.int (2 : Int32)), .val (.int (p6 ^^^ (-1 : Int32))), .val (.ref b30), .val (.ref cc34), .val (.int (1 : Int32))] [(.int (2 : Int32)), (.ref cc34)])) (fun t k => XS.iload X42.here hx rfl (hb hby at_140) rfl k) ?_
    obtain ⟨cq43, kq43, q43a, q43b, q43c⟩ := isOf hZ e42 (I37.1.keep K39)
    obtain ⟨_, _, ⟨T43, L43, k43, n43⟩, -, X43, ⟨Lc43, hQ43, l43, y43, z43⟩, st43⟩ := X42.virtualBack hx (y := (⟨"com/example/cosine/cosine/index/IntList", "get", "(I)I"⟩ : MethodName)) (z := (⟨"com/example/cosine/cosine/index/IntList", "get", "(I)I"⟩ : MethodName)) hown (mvT hZ (hw _ (List.mem_of_getElem? (i := 52) rfl))) (mvT hZ (hw _ (List.mem_of_getElem? (i := 53) rfl))) (notFace_of_selects (args := #[]) (mvT hZ (hw _ (List.mem_of_getElem? (i := 55) rfl)))) (mvT hZ (hw _ (List.mem_of_getElem? (i := 55) rfl))) (mvT hZ (hw _ (List.mem_of_getElem? (i := 54) rfl))) (by decide) (backOf (W := 0) (rm10 l Z a0 hw [] cc34 (2 : Int32) ar37 ka37 za37 [p3, p4, p6] p6 T39.heap n0 (Nat.le_trans (Nat.le_trans (Nat.le_trans (Nat.le_trans (Nat.le_trans (Nat.le_trans (Nat.le_trans Z0 E30.1) K31.1) K32.1) K33.1) K34.1) K37.1) K39.1) (IK40) ((by decide)) ((Nat.le_of_ble_eq_true rfl)) (rfl)) hZ (hw _ (List.mem_of_getElem? (i := 56) rfl)) (hw _ (List.mem_of_getElem? (i := 2) rfl)) (by decide) (by decide)) q43a q43c (g := (mkF m 142 #[.val (.int p1), .val (.int p2), .val (.int p3), .val (.int p4), .val (.int p5), .val (.int p6), .val (.int (2 : Int32)), .val (.int (p6 ^^^ (-1 : Int32))), .val (.ref b30), .val (.ref cc34), .val (.int (1 : Int32))] [(.int (2 : Int32)), (.ref cc34)])) rfl (by rw [hml]; rfl) (Steps.refl _) (argsL := [(.int (2 : Int32))]) (rest := []) (lenOf pd_6 rfl) rfl (by show 2 * 0 + _ ≤ _; exact Nat.le_of_eq rfl) (hb hby at_142) (fun _ _ => ⟨rfl, e42, (by decide : 9 + 0 ≤ _), (by decide : 60 + 0 ≤ _)⟩)
    dsimp only [Pt.U, Pt.locs, Pt.cells, Pt.slots] at X43 l43 y43 z43 st43 hQ43
    subst l43 y43 z43
    obtain ⟨rfl, N43q, e43⟩ := hQ43
    have N43 := Fr.app N42 N43q
    replace e43 := e43
    refine Goes.tr (U' := T43.setTop (mkF m 145 #[.val (.int p1), .val (.int p2), .val (.int p3), .val (.int p4), .val (.int p5), .val (.int p6), .val (.int (2 : Int32)), .val (.int (p6 ^^^ (-1 : Int32))), .val (.ref b30), .val (.ref cc34), .val (.int (1 : Int32))] [(.int p6)])) st43 ?_
    refine Goes.st (U' := T43.setTop (mkF m 147 #[.val (.int p1), .val (.int p2), .val (.int p3), .val (.int p4), .val (.int p5), .val (.int p6), .val (.int (2 : Int32)), .val (.int (p6 ^^^ (-1 : Int32))), .val (.ref b30), .val (.ref cc34), .val (.int (1 : Int32))] [(.int p6), (.int p6)])) (fun t k => XS.iload X43.here hx rfl (hb hby at_145) rfl k) ?_
    refine Goes.st (U' := T43.setTop (mkF m 150 #[.val (.int p1), .val (.int p2), .val (.int p3), .val (.int p4), .val (.int p5), .val (.int p6), .val (.int (2 : Int32)), .val (.int (p6 ^^^ (-1 : Int32))), .val (.ref b30), .val (.ref cc34), .val (.int (1 : Int32))] [])) (fun t k => XS.icmpNo X43.here hx rfl (hb hby at_147) rfl (teq (rfl : p6 = p6)).2 k) ?_
    refine Goes.st (U' := T43.setTop (mkF m 152 #[.val (.int p1), .val (.int p2), .val (.int p3), .val (.int p4), .val (.int p5), .val (.int p6), .val (.int (2 : Int32)), .val (.int (p6 ^^^ (-1 : Int32))), .val (.ref b30), .val (.ref cc34), .val (.int (1 : Int32))] [(.ref b30)])) (fun t k => XS.aload X43.here hx rfl (hb hby at_150) rfl rfl k) ?_
    refine Goes.st (U' := T43.setTop (mkF m 154 #[.val (.int p1), .val (.int p2), .val (.int p3), .val (.int p4), .val (.int p5), .val (.int p6), .val (.int (2 : Int32)), .val (.int (p6 ^^^ (-1 : Int32))), .val (.ref b30), .val (.ref cc34), .val (.int (1 : Int32))] [(.int (2 : Int32)), (.ref b30)])) (fun t k => XS.iload X43.here hx rfl (hb hby at_152) rfl k) ?_
    obtain ⟨cq44, kq44, q44a, q44b, q44c⟩ := isOf hZ e43 I39.1
    obtain ⟨_, _, ⟨T44, L44, k44, n44⟩, -, X44, ⟨Lc44, hQ44, l44, y44, z44⟩, st44⟩ := X43.virtualBack hx (y := (⟨"com/example/cosine/cosine/index/IntList", "get", "(I)I"⟩ : MethodName)) (z := (⟨"com/example/cosine/cosine/index/IntList", "get", "(I)I"⟩ : MethodName)) hown (mvT hZ (hw _ (List.mem_of_getElem? (i := 52) rfl))) (mvT hZ (hw _ (List.mem_of_getElem? (i := 53) rfl))) (notFace_of_selects (args := #[]) (mvT hZ (hw _ (List.mem_of_getElem? (i := 55) rfl)))) (mvT hZ (hw _ (List.mem_of_getElem? (i := 55) rfl))) (mvT hZ (hw _ (List.mem_of_getElem? (i := 54) rfl))) (by decide) (backOf (W := 0) (rm10 l Z a0 hw [] b30 (2 : Int32) ar39 ka39 za39 [p3, p4, (p6 ^^^ (-1 : Int32))] (p6 ^^^ (-1 : Int32)) T39.heap n0 (Nat.le_trans (Nat.le_trans (Nat.le_trans (Nat.le_trans (Nat.le_trans (Nat.le_trans (Nat.le_trans Z0 E30.1) K31.1) K32.1) K33.1) K34.1) K37.1) K39.1) (I39) ((by decide)) ((Nat.le_of_ble_eq_true rfl)) (rfl)) hZ (hw _ (List.mem_of_getElem? (i := 56) rfl)) (hw _ (List.mem_of_getElem? (i := 2) rfl)) (by decide) (by decide)) q44a q44c (g := (mkF m 154 #[.val (.int p1), .val (.int p2), .val (.int p3), .val (.int p4), .val (.int p5), .val (.int p6), .val (.int (2 : Int32)), .val (.int (p6 ^^^ (-1 : Int32))), .val (.ref b30), .val (.ref cc34), .val (.int (1 : Int32))] [(.int (2 : Int32)), (.ref b30)])) rfl (by rw [hml]; rfl) (Steps.refl _) (argsL := [(.int (2 : Int32))]) (rest := []) (lenOf pd_6 rfl) rfl (by show 2 * 0 + _ ≤ _; exact Nat.le_of_eq rfl) (hb hby at_154) (fun _ _ => ⟨rfl, e43, (by decide : 9 + 0 ≤ _), (by decide : 60 + 0 ≤ _)⟩)
    dsimp only [Pt.U, Pt.locs, Pt.cells, Pt.slots] at X44 l44 y44 z44 st44 hQ44
    subst l44 y44 z44
    obtain ⟨rfl, N44q, e44⟩ := hQ44
    have N44 := Fr.app N43 N44q
    replace e44 := e44
    refine Goes.tr (U' := T44.setTop (mkF m 157 #[.val (.int p1), .val (.int p2), .val (.int p3), .val (.int p4), .val (.int p5), .val (.int p6), .val (.int (2 : Int32)), .val (.int (p6 ^^^ (-1 : Int32))), .val (.ref b30), .val (.ref cc34), .val (.int (1 : Int32))] [(.int (p6 ^^^ (-1 : Int32)))])) st44 ?_
    refine Goes.st (U' := T44.setTop (mkF m 159 #[.val (.int p1), .val (.int p2), .val (.int p3), .val (.int p4), .val (.int p5), .val (.int p6), .val (.int (2 : Int32)), .val (.int (p6 ^^^ (-1 : Int32))), .val (.ref b30), .val (.ref cc34), .val (.int (1 : Int32))] [(.int (p6 ^^^ (-1 : Int32))), (.int (p6 ^^^ (-1 : Int32)))])) (fun t k => XS.iload X44.here hx rfl (hb hby at_157) rfl k) ?_
    refine Goes.st (U' := T44.setTop (mkF m 162 #[.val (.int p1), .val (.int p2), .val (.int p3), .val (.int p4), .val (.int p5), .val (.int p6), .val (.int (2 : Int32)), .val (.int (p6 ^^^ (-1 : Int32))), .val (.ref b30), .val (.ref cc34), .val (.int (1 : Int32))] [])) (fun t k => XS.icmpNo X44.here hx rfl (hb hby at_159) rfl (teq (rfl : (p6 ^^^ (-1 : Int32)) = (p6 ^^^ (-1 : Int32)))).2 k) ?_
    refine Goes.st (U' := T44.setTop (mkF m 163 #[.val (.int p1), .val (.int p2), .val (.int p3), .val (.int p4), .val (.int p5), .val (.int p6), .val (.int (2 : Int32)), .val (.int (p6 ^^^ (-1 : Int32))), .val (.ref b30), .val (.ref cc34), .val (.int (1 : Int32))] [(.int (1 : Int32))])) (fun t k => XS.iconst X44.here hx rfl (hb hby at_162) k) ?_
    refine Goes.st (U' := T44.setTop (mkF m 167 #[.val (.int p1), .val (.int p2), .val (.int p3), .val (.int p4), .val (.int p5), .val (.int p6), .val (.int (2 : Int32)), .val (.int (p6 ^^^ (-1 : Int32))), .val (.ref b30), .val (.ref cc34), .val (.int (1 : Int32))] [(.int (1 : Int32))])) (fun t k => XS.goto X44.here hx rfl (pc0 := 163) (pc' := 167) rfl (hb hby at_163) (by decide) (by decide) k) ?_
    refine Goes.st (U' := T44.setTop (mkF m 169 #[.val (.int p1), .val (.int p2), .val (.int p3), .val (.int p4), .val (.int p5), .val (.int p6), .val (.int (2 : Int32)), .val (.int (p6 ^^^ (-1 : Int32))), .val (.ref b30), .val (.ref cc34), .val (.int (1 : Int32))] [])) (fun t k => XS.istore X44.here hx rfl (hb hby at_167) rfl (l' := #[.val (.int p1), .val (.int p2), .val (.int p3), .val (.int p4), .val (.int p5), .val (.int p6), .val (.int (2 : Int32)), .val (.int (p6 ^^^ (-1 : Int32))), .val (.ref b30), .val (.ref cc34), .val (.int (1 : Int32))]) rfl k) ?_
    refine Goes.st (U' := T44.setTop (mkF m 171 #[.val (.int p1), .val (.int p2), .val (.int p3), .val (.int p4), .val (.int p5), .val (.int p6), .val (.int (2 : Int32)), .val (.int (p6 ^^^ (-1 : Int32))), .val (.ref b30), .val (.ref cc34), .val (.int (1 : Int32))] [(.int (2 : Int32))])) (fun t k => XS.iload X44.here hx rfl (hb hby at_169) rfl k) ?_
    refine Goes.st (U' := T44.setTop (mkF m 174 #[.val (.int p1), .val (.int p2), .val (.int p3), .val (.int p4), .val (.int p5), .val (.int p6), .val (.int (2 : Int32)), .val (.int (p6 ^^^ (-1 : Int32))), .val (.ref b30), .val (.ref cc34), .val (.int (1 : Int32))] [])) (fun t k => XS.ifNo X44.here hx rfl (hb hby at_171) rfl ((if0 _ _).trans (tlt (by decide : (0 : Int32) < (2 : Int32))).2.2.2) k) ?_
    refine Goes.st (U' := T44.setTop (mkF m 176 #[.val (.int p1), .val (.int p2), .val (.int p3), .val (.int p4), .val (.int p5), .val (.int p6), .val (.int (2 : Int32)), .val (.int (p6 ^^^ (-1 : Int32))), .val (.ref b30), .val (.ref cc34), .val (.int (1 : Int32))] [(.int (1 : Int32))])) (fun t k => XS.iload X44.here hx rfl (hb hby at_174) rfl k) ?_
    refine Goes.st (U' := T44.setTop (mkF m 179 #[.val (.int p1), .val (.int p2), .val (.int p3), .val (.int p4), .val (.int p5), .val (.int p6), .val (.int (2 : Int32)), .val (.int (p6 ^^^ (-1 : Int32))), .val (.ref b30), .val (.ref cc34), .val (.int (1 : Int32))] [])) (fun t k => XS.ifNo X44.here hx rfl (hb hby at_176) rfl ((if0 _ _).trans (feq (by decide : ¬ ((1 : Int32) = (0 : Int32)))).1) k) ?_
    refine Goes.st (U' := T44.setTop (mkF m 181 #[.val (.int p1), .val (.int p2), .val (.int p3), .val (.int p4), .val (.int p5), .val (.int p6), .val (.int (2 : Int32)), .val (.int (p6 ^^^ (-1 : Int32))), .val (.ref b30), .val (.ref cc34), .val (.int (1 : Int32))] [(.ref cc34)])) (fun t k => XS.aload X44.here hx rfl (hb hby at_179) rfl rfl k) ?_
    refine Goes.st (U' := T44.setTop (mkF m 182 #[.val (.int p1), .val (.int p2), .val (.int p3), .val (.int p4), .val (.int p5), .val (.int p6), .val (.int (2 : Int32)), .val (.int (p6 ^^^ (-1 : Int32))), .val (.ref b30), .val (.ref cc34), .val (.int (1 : Int32))] [(.int (0 : Int32)), (.ref cc34)])) (fun t k => XS.iconst X44.here hx rfl (hb hby at_181) k) ?_
    obtain ⟨cq45, kq45, q45a, q45b, q45c⟩ := isOf hZ e44 (I37.1.keep K39)
    obtain ⟨_, _, ⟨T45, L45, k45, n45⟩, -, X45, ⟨Lc45, hQ45, l45, y45, z45⟩, st45⟩ := X44.virtualBack hx (y := (⟨"com/example/cosine/cosine/index/IntList", "get", "(I)I"⟩ : MethodName)) (z := (⟨"com/example/cosine/cosine/index/IntList", "get", "(I)I"⟩ : MethodName)) hown (mvT hZ (hw _ (List.mem_of_getElem? (i := 52) rfl))) (mvT hZ (hw _ (List.mem_of_getElem? (i := 53) rfl))) (notFace_of_selects (args := #[]) (mvT hZ (hw _ (List.mem_of_getElem? (i := 55) rfl)))) (mvT hZ (hw _ (List.mem_of_getElem? (i := 55) rfl))) (mvT hZ (hw _ (List.mem_of_getElem? (i := 54) rfl))) (by decide) (backOf (W := 0) (rm10 l Z a0 hw [] cc34 (0 : Int32) ar37 ka37 za37 [p3, p4, p6] p3 T39.heap n0 (Nat.le_trans (Nat.le_trans (Nat.le_trans (Nat.le_trans (Nat.le_trans (Nat.le_trans (Nat.le_trans Z0 E30.1) K31.1) K32.1) K33.1) K34.1) K37.1) K39.1) (IK40) ((by decide)) ((Nat.le_of_ble_eq_true rfl)) (rfl)) hZ (hw _ (List.mem_of_getElem? (i := 56) rfl)) (hw _ (List.mem_of_getElem? (i := 2) rfl)) (by decide) (by decide)) q45a q45c (g := (mkF m 182 #[.val (.int p1), .val (.int p2), .val (.int p3), .val (.int p4), .val (.int p5), .val (.int p6), .val (.int (2 : Int32)), .val (.int (p6 ^^^ (-1 : Int32))), .val (.ref b30), .val (.ref cc34), .val (.int (1 : Int32))] [(.int (0 : Int32)), (.ref cc34)])) rfl (by rw [hml]; rfl) (Steps.refl _) (argsL := [(.int (0 : Int32))]) (rest := []) (lenOf pd_6 rfl) rfl (by show 2 * 0 + _ ≤ _; exact Nat.le_of_eq rfl) (hb hby at_182) (fun _ _ => ⟨rfl, e44, (by decide : 9 + 0 ≤ _), (by decide : 60 + 0 ≤ _)⟩)
    dsimp only [Pt.U, Pt.locs, Pt.cells, Pt.slots] at X45 l45 y45 z45 st45 hQ45
    subst l45 y45 z45
    obtain ⟨rfl, N45q, e45⟩ := hQ45
    have N45 := Fr.app N44 N45q
    replace e45 := e45
    refine Goes.tr (U' := T45.setTop (mkF m 185 #[.val (.int p1), .val (.int p2), .val (.int p3), .val (.int p4), .val (.int p5), .val (.int p6), .val (.int (2 : Int32)), .val (.int (p6 ^^^ (-1 : Int32))), .val (.ref b30), .val (.ref cc34), .val (.int (1 : Int32))] [(.int p3)])) st45 ?_
    refine Goes.st (U' := T45.setTop (mkF m 186 #[.val (.int p1), .val (.int p2), .val (.int p3), .val (.int p4), .val (.int p5), .val (.int p6), .val (.int (2 : Int32)), .val (.int (p6 ^^^ (-1 : Int32))), .val (.ref b30), .val (.ref cc34), .val (.int (1 : Int32))] [(.int p3), (.int p3)])) (fun t k => XS.iloadN X45.here hx rfl (hb hby at_185) rfl k) ?_
    refine Goes.st (U' := T45.setTop (mkF m 189 #[.val (.int p1), .val (.int p2), .val (.int p3), .val (.int p4), .val (.int p5), .val (.int p6), .val (.int (2 : Int32)), .val (.int (p6 ^^^ (-1 : Int32))), .val (.ref b30), .val (.ref cc34), .val (.int (1 : Int32))] [])) (fun t k => XS.icmpNo X45.here hx rfl (hb hby at_186) rfl (teq (rfl : p3 = p3)).2 k) ?_
    refine Goes.st (U' := T45.setTop (mkF m 190 #[.val (.int p1), .val (.int p2), .val (.int p3), .val (.int p4), .val (.int p5), .val (.int p6), .val (.int (2 : Int32)), .val (.int (p6 ^^^ (-1 : Int32))), .val (.ref b30), .val (.ref cc34), .val (.int (1 : Int32))] [(.int (1 : Int32))])) (fun t k => XS.iconst X45.here hx rfl (hb hby at_189) k) ?_
    refine Goes.st (U' := T45.setTop (mkF m 194 #[.val (.int p1), .val (.int p2), .val (.int p3), .val (.int p4), .val (.int p5), .val (.int p6), .val (.int (2 : Int32)), .val (.int (p6 ^^^ (-1 : Int32))), .val (.ref b30), .val (.ref cc34), .val (.int (1 : Int32))] [(.int (1 : Int32))])) (fun t k => XS.goto X45.here hx rfl (pc0 := 190) (pc' := 194) rfl (hb hby at_190) (by decide) (by decide) k) ?_
    refine Goes.st (U' := T45.setTop (mkF m 196 #[.val (.int p1), .val (.int p2), .val (.int p3), .val (.int p4), .val (.int p5), .val (.int p6), .val (.int (2 : Int32)), .val (.int (p6 ^^^ (-1 : Int32))), .val (.ref b30), .val (.ref cc34), .val (.int (1 : Int32))] [])) (fun t k => XS.istore X45.here hx rfl (hb hby at_194) rfl (l' := #[.val (.int p1), .val (.int p2), .val (.int p3), .val (.int p4), .val (.int p5), .val (.int p6), .val (.int (2 : Int32)), .val (.int (p6 ^^^ (-1 : Int32))), .val (.ref b30), .val (.ref cc34), .val (.int (1 : Int32))]) rfl k) ?_
    refine Goes.st (U' := T45.setTop (mkF m 198 #[.val (.int p1), .val (.int p2), .val (.int p3), .val (.int p4), .val (.int p5), .val (.int p6), .val (.int (2 : Int32)), .val (.int (p6 ^^^ (-1 : Int32))), .val (.ref b30), .val (.ref cc34), .val (.int (1 : Int32))] [(.int (2 : Int32))])) (fun t k => XS.iload X45.here hx rfl (hb hby at_196) rfl k) ?_
    refine Goes.st (U' := T45.setTop (mkF m 199 #[.val (.int p1), .val (.int p2), .val (.int p3), .val (.int p4), .val (.int p5), .val (.int p6), .val (.int (2 : Int32)), .val (.int (p6 ^^^ (-1 : Int32))), .val (.ref b30), .val (.ref cc34), .val (.int (1 : Int32))] [(.int (1 : Int32)), (.int (2 : Int32))])) (fun t k => XS.iconst X45.here hx rfl (hb hby at_198) k) ?_
    refine Goes.st (U' := T45.setTop (mkF m 202 #[.val (.int p1), .val (.int p2), .val (.int p3), .val (.int p4), .val (.int p5), .val (.int p6), .val (.int (2 : Int32)), .val (.int (p6 ^^^ (-1 : Int32))), .val (.ref b30), .val (.ref cc34), .val (.int (1 : Int32))] [])) (fun t k => XS.icmpNo X45.here hx rfl (hb hby at_199) rfl (tlt (by decide : (1 : Int32) < (2 : Int32))).2.2.2 k) ?_
    refine Goes.st (U' := T45.setTop (mkF m 204 #[.val (.int p1), .val (.int p2), .val (.int p3), .val (.int p4), .val (.int p5), .val (.int p6), .val (.int (2 : Int32)), .val (.int (p6 ^^^ (-1 : Int32))), .val (.ref b30), .val (.ref cc34), .val (.int (1 : Int32))] [(.int (1 : Int32))])) (fun t k => XS.iload X45.here hx rfl (hb hby at_202) rfl k) ?_
    refine Goes.st (U' := T45.setTop (mkF m 207 #[.val (.int p1), .val (.int p2), .val (.int p3), .val (.int p4), .val (.int p5), .val (.int p6), .val (.int (2 : Int32)), .val (.int (p6 ^^^ (-1 : Int32))), .val (.ref b30), .val (.ref cc34), .val (.int (1 : Int32))] [])) (fun t k => XS.ifNo X45.here hx rfl (hb hby at_204) rfl ((if0 _ _).trans (feq (by decide : ¬ ((1 : Int32) = (0 : Int32)))).1) k) ?_
    refine Goes.st (U' := T45.setTop (mkF m 209 #[.val (.int p1), .val (.int p2), .val (.int p3), .val (.int p4), .val (.int p5), .val (.int p6), .val (.int (2 : Int32)), .val (.int (p6 ^^^ (-1 : Int32))), .val (.ref b30), .val (.ref cc34), .val (.int (1 : Int32))] [(.ref cc34)])) (fun t k => XS.aload X45.here hx rfl (hb hby at_207) rfl rfl k) ?_
    refine Goes.st (U' := T45.setTop (mkF m 210 #[.val (.int p1), .val (.int p2), .val (.int p3), .val (.int p4), .val (.int p5), .val (.int p6), .val (.int (2 : Int32)), .val (.int (p6 ^^^ (-1 : Int32))), .val (.ref b30), .val (.ref cc34), .val (.int (1 : Int32))] [(.int (1 : Int32)), (.ref cc34)])) (fun t k => XS.iconst X45.here hx rfl (hb hby at_209) k) ?_
    obtain ⟨cq46, kq46, q46a, q46b, q46c⟩ := isOf hZ e45 (I37.1.keep K39)
    obtain ⟨_, _, ⟨T46, L46, k46, n46⟩, -, X46, ⟨Lc46, hQ46, l46, y46, z46⟩, st46⟩ := X45.virtualBack hx (y := (⟨"com/example/cosine/cosine/index/IntList", "get", "(I)I"⟩ : MethodName)) (z := (⟨"com/example/cosine/cosine/index/IntList", "get", "(I)I"⟩ : MethodName)) hown (mvT hZ (hw _ (List.mem_of_getElem? (i := 52) rfl))) (mvT hZ (hw _ (List.mem_of_getElem? (i := 53) rfl))) (notFace_of_selects (args := #[]) (mvT hZ (hw _ (List.mem_of_getElem? (i := 55) rfl)))) (mvT hZ (hw _ (List.mem_of_getElem? (i := 55) rfl))) (mvT hZ (hw _ (List.mem_of_getElem? (i := 54) rfl))) (by decide) (backOf (W := 0) (rm10 l Z a0 hw [] cc34 (1 : Int32) ar37 ka37 za37 [p3, p4, p6] p4 T39.heap n0 (Nat.le_trans (Nat.le_trans (Nat.le_trans (Nat.le_trans (Nat.le_trans (Nat.le_trans (Nat.le_trans Z0 E30.1) K31.1) K32.1) K33.1) K34.1) K37.1) K39.1) (IK40) ((by decide)) ((Nat.le_of_ble_eq_true rfl)) (rfl)) hZ (hw _ (List.mem_of_getElem? (i := 56) rfl)) (hw _ (List.mem_of_getElem? (i := 2) rfl)) (by decide) (by decide)) q46a q46c (g := (mkF m 210 #[.val (.int p1), .val (.int p2), .val (.int p3), .val (.int p4), .val (.int p5), .val (.int p6), .val (.int (2 : Int32)), .val (.int (p6 ^^^ (-1 : Int32))), .val (.ref b30), .val (.ref cc34), .val (.int (1 : Int32))] [(.int (1 : Int32)), (.ref cc34)])) rfl (by rw [hml]; rfl) (Steps.refl _) (argsL := [(.int (1 : Int32))]) (rest := []) (lenOf pd_6 rfl) rfl (by show 2 * 0 + _ ≤ _; exact Nat.le_of_eq rfl) (hb hby at_210) (fun _ _ => ⟨rfl, e45, (by decide : 9 + 0 ≤ _), (by decide : 60 + 0 ≤ _)⟩)
    dsimp only [Pt.U, Pt.locs, Pt.cells, Pt.slots] at X46 l46 y46 z46 st46 hQ46
    subst l46 y46 z46
    obtain ⟨rfl, N46q, e46⟩ := hQ46
    have N46 := Fr.app N45 N46q
    replace e46 := e46
    refine Goes.tr (U' := T46.setTop (mkF m 213 #[.val (.int p1), .val (.int p2), .val (.int p3), .val (.int p4), .val (.int p5), .val (.int p6), .val (.int (2 : Int32)), .val (.int (p6 ^^^ (-1 : Int32))), .val (.ref b30), .val (.ref cc34), .val (.int (1 : Int32))] [(.int p4)])) st46 ?_
    refine Goes.st (U' := T46.setTop (mkF m 214 #[.val (.int p1), .val (.int p2), .val (.int p3), .val (.int p4), .val (.int p5), .val (.int p6), .val (.int (2 : Int32)), .val (.int (p6 ^^^ (-1 : Int32))), .val (.ref b30), .val (.ref cc34), .val (.int (1 : Int32))] [(.int p4), (.int p4)])) (fun t k => XS.iloadN X46.here hx rfl (hb hby at_213) rfl k) ?_
    refine Goes.st (U' := T46.setTop (mkF m 217 #[.val (.int p1), .val (.int p2), .val (.int p3), .val (.int p4), .val (.int p5), .val (.int p6), .val (.int (2 : Int32)), .val (.int (p6 ^^^ (-1 : Int32))), .val (.ref b30), .val (.ref cc34), .val (.int (1 : Int32))] [])) (fun t k => XS.icmpNo X46.here hx rfl (hb hby at_214) rfl (teq (rfl : p4 = p4)).2 k) ?_
    refine Goes.st (U' := T46.setTop (mkF m 218 #[.val (.int p1), .val (.int p2), .val (.int p3), .val (.int p4), .val (.int p5), .val (.int p6), .val (.int (2 : Int32)), .val (.int (p6 ^^^ (-1 : Int32))), .val (.ref b30), .val (.ref cc34), .val (.int (1 : Int32))] [(.int (1 : Int32))])) (fun t k => XS.iconst X46.here hx rfl (hb hby at_217) k) ?_
    refine Goes.st (U' := T46.setTop (mkF m 222 #[.val (.int p1), .val (.int p2), .val (.int p3), .val (.int p4), .val (.int p5), .val (.int p6), .val (.int (2 : Int32)), .val (.int (p6 ^^^ (-1 : Int32))), .val (.ref b30), .val (.ref cc34), .val (.int (1 : Int32))] [(.int (1 : Int32))])) (fun t k => XS.goto X46.here hx rfl (pc0 := 218) (pc' := 222) rfl (hb hby at_218) (by decide) (by decide) k) ?_
    refine Goes.st (U' := T46.setTop (mkF m 224 #[.val (.int p1), .val (.int p2), .val (.int p3), .val (.int p4), .val (.int p5), .val (.int p6), .val (.int (2 : Int32)), .val (.int (p6 ^^^ (-1 : Int32))), .val (.ref b30), .val (.ref cc34), .val (.int (1 : Int32))] [])) (fun t k => XS.istore X46.here hx rfl (hb hby at_222) rfl (l' := #[.val (.int p1), .val (.int p2), .val (.int p3), .val (.int p4), .val (.int p5), .val (.int p6), .val (.int (2 : Int32)), .val (.int (p6 ^^^ (-1 : Int32))), .val (.ref b30), .val (.ref cc34), .val (.int (1 : Int32))]) rfl k) ?_
    refine Goes.st (U' := T46.setTop (mkF m 226 #[.val (.int p1), .val (.int p2), .val (.int p3), .val (.int p4), .val (.int p5), .val (.int p6), .val (.int (2 : Int32)), .val (.int (p6 ^^^ (-1 : Int32))), .val (.ref b30), .val (.ref cc34), .val (.int (1 : Int32))] [(.int (2 : Int32))])) (fun t k => XS.iload X46.here hx rfl (hb hby at_224) rfl k) ?_
    refine Goes.st (U' := T46.setTop (mkF m 227 #[.val (.int p1), .val (.int p2), .val (.int p3), .val (.int p4), .val (.int p5), .val (.int p6), .val (.int (2 : Int32)), .val (.int (p6 ^^^ (-1 : Int32))), .val (.ref b30), .val (.ref cc34), .val (.int (1 : Int32))] [(.int (2 : Int32)), (.int (2 : Int32))])) (fun t k => XS.iconst X46.here hx rfl (hb hby at_226) k) ?_
    refine Goes.st (U' := T46.setTop (mkF m 253 #[.val (.int p1), .val (.int p2), .val (.int p3), .val (.int p4), .val (.int p5), .val (.int p6), .val (.int (2 : Int32)), .val (.int (p6 ^^^ (-1 : Int32))), .val (.ref b30), .val (.ref cc34), .val (.int (1 : Int32))] [])) (fun t k => XS.icmpYes X46.here hx rfl (pc0 := 227) (pc' := 253) rfl (hb hby at_227) rfl (flt (by decide : ¬ ((2 : Int32) < (2 : Int32)))).2.2.2 (by decide) (by decide) k) ?_
    refine Goes.st (U' := T46.setTop (mkF m 255 #[.val (.int p1), .val (.int p2), .val (.int p3), .val (.int p4), .val (.int p5), .val (.int p6), .val (.int (2 : Int32)), .val (.int (p6 ^^^ (-1 : Int32))), .val (.ref b30), .val (.ref cc34), .val (.int (1 : Int32))] [(.int (1 : Int32))])) (fun t k => XS.iload X46.here hx rfl (hb hby at_253) rfl k) ?_
    refine Goes.retZ X46 hx (BodyLoose.notSynchronized Bd) Bd.returns (hb hby at_255) rfl (by decide) (by decide) ?_
    show Q0 Z p1 p2 p3 p4 p5 p6 h0 n0 _ T46.heap _
    rw [e46]
    exact ⟨rfl, N46⟩
  · skip
    refine Goes.st (U' := s₁.setTop (mkF m 5 #[.val (.int p1), .val (.int p2), .val (.int p3), .val (.int p4), .val (.int p5), .val (.int p6), .val (.int (3 : Int32)), .unset, .unset, .unset, .unset] [])) (fun t k => XS.istore X0.here hx rfl (hb hby at_3) rfl (l' := #[.val (.int p1), .val (.int p2), .val (.int p3), .val (.int p4), .val (.int p5), .val (.int p6), .val (.int (3 : Int32)), .unset, .unset, .unset, .unset]) rfl k) ?_
    refine Goes.st (U' := s₁.setTop (mkF m 7 #[.val (.int p1), .val (.int p2), .val (.int p3), .val (.int p4), .val (.int p5), .val (.int p6), .val (.int (3 : Int32)), .unset, .unset, .unset, .unset] [(.int p6)])) (fun t k => XS.iload X0.here hx rfl (hb hby at_5) rfl k) ?_
    refine Goes.st (U' := s₁.setTop (mkF m 8 #[.val (.int p1), .val (.int p2), .val (.int p3), .val (.int p4), .val (.int p5), .val (.int p6), .val (.int (3 : Int32)), .unset, .unset, .unset, .unset] [(.int (-1 : Int32)), (.int p6)])) (fun t k => XS.iconst X0.here hx rfl (hb hby at_7) k) ?_
    refine Goes.st (U' := s₁.setTop (mkF m 9 #[.val (.int p1), .val (.int p2), .val (.int p3), .val (.int p4), .val (.int p5), .val (.int p6), .val (.int (3 : Int32)), .unset, .unset, .unset, .unset] [(.int (p6 ^^^ (-1 : Int32)))])) (fun t k => XS.ixor X0.here hx rfl (hb hby at_8) rfl k) ?_
    refine Goes.st (U' := s₁.setTop (mkF m 11 #[.val (.int p1), .val (.int p2), .val (.int p3), .val (.int p4), .val (.int p5), .val (.int p6), .val (.int (3 : Int32)), .val (.int (p6 ^^^ (-1 : Int32))), .unset, .unset, .unset] [])) (fun t k => XS.istore X0.here hx rfl (hb hby at_9) rfl (l' := #[.val (.int p1), .val (.int p2), .val (.int p3), .val (.int p4), .val (.int p5), .val (.int p6), .val (.int (3 : Int32)), .val (.int (p6 ^^^ (-1 : Int32))), .unset, .unset, .unset]) rfl k) ?_
    obtain ⟨T47, h47, X47, e47, E47, A47, D47, -, st47⟩ := newO X0 hx hZ hown (hw _ (List.mem_of_getElem? (i := 0) rfl)) (hw _ (List.mem_of_getElem? (i := 1) rfl)) (hw _ (List.mem_of_getElem? (i := 2) rfl)) e0 (g := (mkF m 11 #[.val (.int p1), .val (.int p2), .val (.int p3), .val (.int p4), .val (.int p5), .val (.int p6), .val (.int (3 : Int32)), .val (.int (p6 ^^^ (-1 : Int32))), .unset, .unset, .unset] [])) rfl (hb hby at_11) (by decide) (by decide)
    obtain ⟨b47, g47⟩ : ∃ z, z = h0.size := ⟨_, rfl⟩
    rw [← g47] at A47 D47 st47
    have g_b47 : n0 ≤ b47 := Nat.le_trans Z0 (Nat.le_of_eq g47.symm)
    have F_values_b47 : Fld Z h47 b47 "com/example/cosine/cosine/index/IntList" "values" "[I" .null := D47 (Or.inl (hw _ (List.mem_of_getElem? (i := 11) rfl))) (ty := (.array .int)) (by decide)
    have F_size_b47 : Fld Z h47 b47 "com/example/cosine/cosine/index/IntList" "size" "I" (.int (0 : Int32)) := D47 (Or.inl (hw _ (List.mem_of_getElem? (i := 18) rfl))) (ty := .int) (by decide)
    refine Goes.st (U' := T47.setTop (mkF m 14 #[.val (.int p1), .val (.int p2), .val (.int p3), .val (.int p4), .val (.int p5), .val (.int p6), .val (.int (3 : Int32)), .val (.int (p6 ^^^ (-1 : Int32))), .unset, .unset, .unset] [(.ref b47)])) (fun t k => st47 t k) ?_
    refine Goes.st (U' := T47.setTop (mkF m 15 #[.val (.int p1), .val (.int p2), .val (.int p3), .val (.int p4), .val (.int p5), .val (.int p6), .val (.int (3 : Int32)), .val (.int (p6 ^^^ (-1 : Int32))), .unset, .unset, .unset] [(.ref b47), (.ref b47)])) (fun t k => XS.dup X47.here hx rfl (hb hby at_14) rfl rfl k) ?_
    refine Goes.st (U' := T47.setTop (mkF m 16 #[.val (.int p1), .val (.int p2), .val (.int p3), .val (.int p4), .val (.int p5), .val (.int p6), .val (.int (3 : Int32)), .val (.int (p6 ^^^ (-1 : Int32))), .unset, .unset, .unset] [(.int p1), (.ref b47), (.ref b47)])) (fun t k => XS.iloadN X47.here hx rfl (hb hby at_15) rfl k) ?_
    refine Goes.st (U' := T47.setTop (mkF m 17 #[.val (.int p1), .val (.int p2), .val (.int p3), .val (.int p4), .val (.int p5), .val (.int p6), .val (.int (3 : Int32)), .val (.int (p6 ^^^ (-1 : Int32))), .unset, .unset, .unset] [(.int (3 : Int32)), (.int p1), (.ref b47), (.ref b47)])) (fun t k => XS.iconst X47.here hx rfl (hb hby at_16) k) ?_
    refine Goes.st (U' := T47.setTop (mkF m 18 #[.val (.int p1), .val (.int p2), .val (.int p3), .val (.int p4), .val (.int p5), .val (.int p6), .val (.int (3 : Int32)), .val (.int (p6 ^^^ (-1 : Int32))), .unset, .unset, .unset] [(.int (p1 &&& (3 : Int32))), (.ref b47), (.ref b47)])) (fun t k => XS.iand X47.here hx rfl (hb hby at_17) rfl k) ?_
    obtain ⟨_, _, ⟨T48, L48, k48, n48⟩, -, X48, ⟨Lc48, hQ48, l48, y48, z48⟩, st48⟩ := X47.specialBack hx (y := (⟨"com/example/cosine/cosine/index/IntList", "<init>", "(I)V"⟩ : MethodName)) rfl hown (mvT hZ (hw _ (List.mem_of_getElem? (i := 3) rfl))) (mvT hZ (hw _ (List.mem_of_getElem? (i := 4) rfl))) (mvT hZ (hw _ (List.mem_of_getElem? (i := 5) rfl))) (by decide) (backOf (W := 1) (rm1 l Z a0 hw [] b47 (p1 &&& (3 : Int32)) h47 n0 (Nat.le_trans Z0 E47.1) (A47) (F_values_b47) (F_size_b47) (g_b47) ((own_cap p1).1) ((own_cap p1).2)) hZ (hw _ (List.mem_of_getElem? (i := 5) rfl)) (hw _ (List.mem_of_getElem? (i := 2) rfl)) (by decide) (by decide)) (g := (mkF m 18 #[.val (.int p1), .val (.int p2), .val (.int p3), .val (.int p4), .val (.int p5), .val (.int p6), .val (.int (3 : Int32)), .val (.int (p6 ^^^ (-1 : Int32))), .unset, .unset, .unset] [(.int (p1 &&& (3 : Int32))), (.ref b47), (.ref b47)])) rfl (by rw [hml]; rfl) (Steps.refl _) (a := b47) (argsL := [(.int (p1 &&& (3 : Int32)))]) (rest := [(.ref b47)]) (lenOf pd_3 rfl) rfl (by show 2 * 0 + _ ≤ _; exact Nat.le_of_eq rfl) (hb hby at_18) (fun _ _ => ⟨rfl, e47, (by decide : 1 + 1 ≤ _), (by decide : 2 + 8 ≤ _)⟩)
    dsimp only [Pt.U, Pt.locs, Pt.cells, Pt.slots] at X48 l48 y48 z48 st48 hQ48
    subst l48 y48 z48
    obtain ⟨rfl, N48q, K48, ar48, ka48, I48, g_ar48, u48⟩ := hQ48
    have N48 := Fr.app N0 N48q
    have ne_b47_ar48 : b47 ≠ ar48 := Nat.ne_of_lt (Nat.lt_of_lt_of_le A47.lt u48)
    refine Goes.tr (U' := T48.setTop (mkF m 21 #[.val (.int p1), .val (.int p2), .val (.int p3), .val (.int p4), .val (.int p5), .val (.int p6), .val (.int (3 : Int32)), .val (.int (p6 ^^^ (-1 : Int32))), .unset, .unset, .unset] [(.ref b47)])) st48 ?_
    refine Goes.st (U' := T48.setTop (mkF m 23 #[.val (.int p1), .val (.int p2), .val (.int p3), .val (.int p4), .val (.int p5), .val (.int p6), .val (.int (3 : Int32)), .val (.int (p6 ^^^ (-1 : Int32))), .val (.ref b47), .unset, .unset] [])) (fun t k => XS.astore X48.here hx rfl (hb hby at_21) rfl rfl (l' := #[.val (.int p1), .val (.int p2), .val (.int p3), .val (.int p4), .val (.int p5), .val (.int p6), .val (.int (3 : Int32)), .val (.int (p6 ^^^ (-1 : Int32))), .val (.ref b47), .unset, .unset]) rfl k) ?_
    refine Goes.st (U' := T48.setTop (mkF m 25 #[.val (.int p1), .val (.int p2), .val (.int p3), .val (.int p4), .val (.int p5), .val (.int p6), .val (.int (3 : Int32)), .val (.int (p6 ^^^ (-1 : Int32))), .val (.ref b47), .unset, .unset] [(.int (3 : Int32))])) (fun t k => XS.iload X48.here hx rfl (hb hby at_23) rfl k) ?_
    refine Goes.st (U' := T48.setTop (mkF m 28 #[.val (.int p1), .val (.int p2), .val (.int p3), .val (.int p4), .val (.int p5), .val (.int p6), .val (.int (3 : Int32)), .val (.int (p6 ^^^ (-1 : Int32))), .val (.ref b47), .unset, .unset] [])) (fun t k => XS.ifNo X48.here hx rfl (hb hby at_25) rfl ((if0 _ _).trans (tlt (by decide : (0 : Int32) < (3 : Int32))).2.2.2) k) ?_
    refine Goes.st (U' := T48.setTop (mkF m 30 #[.val (.int p1), .val (.int p2), .val (.int p3), .val (.int p4), .val (.int p5), .val (.int p6), .val (.int (3 : Int32)), .val (.int (p6 ^^^ (-1 : Int32))), .val (.ref b47), .unset, .unset] [(.ref b47)])) (fun t k => XS.aload X48.here hx rfl (hb hby at_28) rfl rfl k) ?_
    refine Goes.st (U' := T48.setTop (mkF m 31 #[.val (.int p1), .val (.int p2), .val (.int p3), .val (.int p4), .val (.int p5), .val (.int p6), .val (.int (3 : Int32)), .val (.int (p6 ^^^ (-1 : Int32))), .val (.ref b47), .unset, .unset] [(.int p3), (.ref b47)])) (fun t k => XS.iloadN X48.here hx rfl (hb hby at_30) rfl k) ?_
    obtain ⟨cq49, kq49, q49a, q49b, q49c⟩ := isOf hZ rfl I48.1
    obtain ⟨_, _, ⟨T49, L49, k49, n49⟩, -, X49, ⟨Lc49, hQ49, l49, y49, z49⟩, st49⟩ := X48.virtualBack hx (y := (⟨"com/example/cosine/cosine/index/IntList", "add", "(I)V"⟩ : MethodName)) (z := (⟨"com/example/cosine/cosine/index/IntList", "add", "(I)V"⟩ : MethodName)) hown (mvT hZ (hw _ (List.mem_of_getElem? (i := 12) rfl))) (mvT hZ (hw _ (List.mem_of_getElem? (i := 13) rfl))) (notFace_of_selects (args := #[]) (mvT hZ (hw _ (List.mem_of_getElem? (i := 15) rfl)))) (mvT hZ (hw _ (List.mem_of_getElem? (i := 15) rfl))) (mvT hZ (hw _ (List.mem_of_getElem? (i := 14) rfl))) (by decide) (backOf (W := 0) (rm3 l Z a0 hw [] b47 p3 ar48 ka48 (p1 &&& (3 : Int32)) [] T48.heap n0 (Nat.le_trans (Nat.le_trans Z0 E47.1) K48.1) (I48) ((Nat.le_of_ble_eq_true rfl)) (g_b47) (g_ar48)) hZ (hw _ (List.mem_of_getElem? (i := 16) rfl)) (hw _ (List.mem_of_getElem? (i := 2) rfl)) (by decide) (by decide)) q49a q49c (g := (mkF m 31 #[.val (.int p1), .val (.int p2), .val (.int p3), .val (.int p4), .val (.int p5), .val (.int p6), .val (.int (3 : Int32)), .val (.int (p6 ^^^ (-1 : Int32))), .val (.ref b47), .unset, .unset] [(.int p3), (.ref b47)])) rfl (by rw [hml]; rfl) (Steps.refl _) (argsL := [(.int p3)]) (rest := []) (lenOf pd_3 rfl) rfl (by show 2 * 0 + _ ≤ _; exact Nat.le_of_eq rfl) (hb hby at_31) (fun _ _ => ⟨rfl, rfl, (by decide : 2 + 1 ≤ _), (by decide : 10 + 8 ≤ _)⟩)
    dsimp only [Pt.U, Pt.locs, Pt.cells, Pt.slots] at X49 l49 y49 z49 st49 hQ49
    subst l49 y49 z49
    obtain ⟨rfl, N49q, K49, ar49, ka49, za49, I49, g_ar49, u49⟩ := hQ49
    have N49 := Fr.app N48 N49q
    have ne_b47_ar49 : b47 ≠ ar49 := I49.2.2.2.2.2.2.2.2
    refine Goes.tr (U' := T49.setTop (mkF m 34 #[.val (.int p1), .val (.int p2), .val (.int p3), .val (.int p4), .val (.int p5), .val (.int p6), .val (.int (3 : Int32)), .val (.int (p6 ^^^ (-1 : Int32))), .val (.ref b47), .unset, .unset] [])) st49 ?_
    refine Goes.st (U' := T49.setTop (mkF m 36 #[.val (.int p1), .val (.int p2), .val (.int p3), .val (.int p4), .val (.int p5), .val (.int p6), .val (.int (3 : Int32)), .val (.int (p6 ^^^ (-1 : Int32))), .val (.ref b47), .unset, .unset] [(.int (3 : Int32))])) (fun t k => XS.iload X49.here hx rfl (hb hby at_34) rfl k) ?_
    refine Goes.st (U' := T49.setTop (mkF m 37 #[.val (.int p1), .val (.int p2), .val (.int p3), .val (.int p4), .val (.int p5), .val (.int p6), .val (.int (3 : Int32)), .val (.int (p6 ^^^ (-1 : Int32))), .val (.ref b47), .unset, .unset] [(.int (1 : Int32)), (.int (3 : Int32))])) (fun t k => XS.iconst X49.here hx rfl (hb hby at_36) k) ?_
    refine Goes.st (U' := T49.setTop (mkF m 40 #[.val (.int p1), .val (.int p2), .val (.int p3), .val (.int p4), .val (.int p5), .val (.int p6), .val (.int (3 : Int32)), .val (.int (p6 ^^^ (-1 : Int32))), .val (.ref b47), .unset, .unset] [])) (fun t k => XS.icmpNo X49.here hx rfl (hb hby at_37) rfl (tlt (by decide : (1 : Int32) < (3 : Int32))).2.2.2 k) ?_
    refine Goes.st (U' := T49.setTop (mkF m 42 #[.val (.int p1), .val (.int p2), .val (.int p3), .val (.int p4), .val (.int p5), .val (.int p6), .val (.int (3 : Int32)), .val (.int (p6 ^^^ (-1 : Int32))), .val (.ref b47), .unset, .unset] [(.ref b47)])) (fun t k => XS.aload X49.here hx rfl (hb hby at_40) rfl rfl k) ?_
    refine Goes.st (U' := T49.setTop (mkF m 43 #[.val (.int p1), .val (.int p2), .val (.int p3), .val (.int p4), .val (.int p5), .val (.int p6), .val (.int (3 : Int32)), .val (.int (p6 ^^^ (-1 : Int32))), .val (.ref b47), .unset, .unset] [(.int p4), (.ref b47)])) (fun t k => XS.iloadN X49.here hx rfl (hb hby at_42) rfl k) ?_
    obtain ⟨cq50, kq50, q50a, q50b, q50c⟩ := isOf hZ rfl I49.1
    obtain ⟨_, _, ⟨T50, L50, k50, n50⟩, -, X50, ⟨Lc50, hQ50, l50, y50, z50⟩, st50⟩ := X49.virtualBack hx (y := (⟨"com/example/cosine/cosine/index/IntList", "add", "(I)V"⟩ : MethodName)) (z := (⟨"com/example/cosine/cosine/index/IntList", "add", "(I)V"⟩ : MethodName)) hown (mvT hZ (hw _ (List.mem_of_getElem? (i := 12) rfl))) (mvT hZ (hw _ (List.mem_of_getElem? (i := 13) rfl))) (notFace_of_selects (args := #[]) (mvT hZ (hw _ (List.mem_of_getElem? (i := 15) rfl)))) (mvT hZ (hw _ (List.mem_of_getElem? (i := 15) rfl))) (mvT hZ (hw _ (List.mem_of_getElem? (i := 14) rfl))) (by decide) (backOf (W := 0) (rm3 l Z a0 hw [] b47 p4 ar49 ka49 za49 [p3] T49.heap n0 (Nat.le_trans (Nat.le_trans (Nat.le_trans Z0 E47.1) K48.1) K49.1) (I49) ((Nat.le_of_ble_eq_true rfl)) (g_b47) (g_ar49)) hZ (hw _ (List.mem_of_getElem? (i := 16) rfl)) (hw _ (List.mem_of_getElem? (i := 2) rfl)) (by decide) (by decide)) q50a q50c (g := (mkF m 43 #[.val (.int p1), .val (.int p2), .val (.int p3), .val (.int p4), .val (.int p5), .val (.int p6), .val (.int (3 : Int32)), .val (.int (p6 ^^^ (-1 : Int32))), .val (.ref b47), .unset, .unset] [(.int p4), (.ref b47)])) rfl (by rw [hml]; rfl) (Steps.refl _) (argsL := [(.int p4)]) (rest := []) (lenOf pd_3 rfl) rfl (by show 2 * 0 + _ ≤ _; exact Nat.le_of_eq rfl) (hb hby at_43) (fun _ _ => ⟨rfl, rfl, (by decide : 3 + 1 ≤ _), (by decide : 18 + 8 ≤ _)⟩)
    dsimp only [Pt.U, Pt.locs, Pt.cells, Pt.slots] at X50 l50 y50 z50 st50 hQ50
    subst l50 y50 z50
    obtain ⟨rfl, N50q, K50, ar50, ka50, za50, I50, g_ar50, u50⟩ := hQ50
    have N50 := Fr.app N49 N50q
    have ne_b47_ar50 : b47 ≠ ar50 := I50.2.2.2.2.2.2.2.2
    refine Goes.tr (U' := T50.setTop (mkF m 46 #[.val (.int p1), .val (.int p2), .val (.int p3), .val (.int p4), .val (.int p5), .val (.int p6), .val (.int (3 : Int32)), .val (.int (p6 ^^^ (-1 : Int32))), .val (.ref b47), .unset, .unset] [])) st50 ?_
    refine Goes.st (U' := T50.setTop (mkF m 48 #[.val (.int p1), .val (.int p2), .val (.int p3), .val (.int p4), .val (.int p5), .val (.int p6), .val (.int (3 : Int32)), .val (.int (p6 ^^^ (-1 : Int32))), .val (.ref b47), .unset, .unset] [(.int (3 : Int32))])) (fun t k => XS.iload X50.here hx rfl (hb hby at_46) rfl k) ?_
    refine Goes.st (U' := T50.setTop (mkF m 49 #[.val (.int p1), .val (.int p2), .val (.int p3), .val (.int p4), .val (.int p5), .val (.int p6), .val (.int (3 : Int32)), .val (.int (p6 ^^^ (-1 : Int32))), .val (.ref b47), .unset, .unset] [(.int (2 : Int32)), (.int (3 : Int32))])) (fun t k => XS.iconst X50.here hx rfl (hb hby at_48) k) ?_
    refine Goes.st (U' := T50.setTop (mkF m 52 #[.val (.int p1), .val (.int p2), .val (.int p3), .val (.int p4), .val (.int p5), .val (.int p6), .val (.int (3 : Int32)), .val (.int (p6 ^^^ (-1 : Int32))), .val (.ref b47), .unset, .unset] [])) (fun t k => XS.icmpNo X50.here hx rfl (hb hby at_49) rfl (tlt (by decide : (2 : Int32) < (3 : Int32))).2.2.2 k) ?_
    refine Goes.st (U' := T50.setTop (mkF m 54 #[.val (.int p1), .val (.int p2), .val (.int p3), .val (.int p4), .val (.int p5), .val (.int p6), .val (.int (3 : Int32)), .val (.int (p6 ^^^ (-1 : Int32))), .val (.ref b47), .unset, .unset] [(.ref b47)])) (fun t k => XS.aload X50.here hx rfl (hb hby at_52) rfl rfl k) ?_
    refine Goes.st (U' := T50.setTop (mkF m 56 #[.val (.int p1), .val (.int p2), .val (.int p3), .val (.int p4), .val (.int p5), .val (.int p6), .val (.int (3 : Int32)), .val (.int (p6 ^^^ (-1 : Int32))), .val (.ref b47), .unset, .unset] [(.int p5), (.ref b47)])) (fun t k => XS.iload X50.here hx rfl (hb hby at_54) rfl k) ?_
    obtain ⟨cq51, kq51, q51a, q51b, q51c⟩ := isOf hZ rfl I50.1
    obtain ⟨_, _, ⟨T51, L51, k51, n51⟩, -, X51, ⟨Lc51, hQ51, l51, y51, z51⟩, st51⟩ := X50.virtualBack hx (y := (⟨"com/example/cosine/cosine/index/IntList", "add", "(I)V"⟩ : MethodName)) (z := (⟨"com/example/cosine/cosine/index/IntList", "add", "(I)V"⟩ : MethodName)) hown (mvT hZ (hw _ (List.mem_of_getElem? (i := 12) rfl))) (mvT hZ (hw _ (List.mem_of_getElem? (i := 13) rfl))) (notFace_of_selects (args := #[]) (mvT hZ (hw _ (List.mem_of_getElem? (i := 15) rfl)))) (mvT hZ (hw _ (List.mem_of_getElem? (i := 15) rfl))) (mvT hZ (hw _ (List.mem_of_getElem? (i := 14) rfl))) (by decide) (backOf (W := 0) (rm3 l Z a0 hw [] b47 p5 ar50 ka50 za50 [p3, p4] T50.heap n0 (Nat.le_trans (Nat.le_trans (Nat.le_trans (Nat.le_trans Z0 E47.1) K48.1) K49.1) K50.1) (I50) ((Nat.le_of_ble_eq_true rfl)) (g_b47) (g_ar50)) hZ (hw _ (List.mem_of_getElem? (i := 16) rfl)) (hw _ (List.mem_of_getElem? (i := 2) rfl)) (by decide) (by decide)) q51a q51c (g := (mkF m 56 #[.val (.int p1), .val (.int p2), .val (.int p3), .val (.int p4), .val (.int p5), .val (.int p6), .val (.int (3 : Int32)), .val (.int (p6 ^^^ (-1 : Int32))), .val (.ref b47), .unset, .unset] [(.int p5), (.ref b47)])) rfl (by rw [hml]; rfl) (Steps.refl _) (argsL := [(.int p5)]) (rest := []) (lenOf pd_3 rfl) rfl (by show 2 * 0 + _ ≤ _; exact Nat.le_of_eq rfl) (hb hby at_56) (fun _ _ => ⟨rfl, rfl, (by decide : 4 + 1 ≤ _), (by decide : 26 + 8 ≤ _)⟩)
    dsimp only [Pt.U, Pt.locs, Pt.cells, Pt.slots] at X51 l51 y51 z51 st51 hQ51
    subst l51 y51 z51
    obtain ⟨rfl, N51q, K51, ar51, ka51, za51, I51, g_ar51, u51⟩ := hQ51
    have N51 := Fr.app N50 N51q
    have ne_b47_ar51 : b47 ≠ ar51 := I51.2.2.2.2.2.2.2.2
    refine Goes.tr (U' := T51.setTop (mkF m 59 #[.val (.int p1), .val (.int p2), .val (.int p3), .val (.int p4), .val (.int p5), .val (.int p6), .val (.int (3 : Int32)), .val (.int (p6 ^^^ (-1 : Int32))), .val (.ref b47), .unset, .unset] [])) st51 ?_
    refine Goes.st (U' := T51.setTop (mkF m 61 #[.val (.int p1), .val (.int p2), .val (.int p3), .val (.int p4), .val (.int p5), .val (.int p6), .val (.int (3 : Int32)), .val (.int (p6 ^^^ (-1 : Int32))), .val (.ref b47), .unset, .unset] [(.ref b47)])) (fun t k => XS.aload X51.here hx rfl (hb hby at_59) rfl rfl k) ?_
    obtain ⟨cq52, kq52, q52a, q52b, q52c⟩ := isOf hZ rfl I51.1
    obtain ⟨_, _, ⟨T52, L52, k52, n52⟩, -, X52, ⟨Lc52, hQ52, l52, y52, z52⟩, st52⟩ := X51.virtualBack hx (y := (⟨"com/example/cosine/cosine/index/IntList", "copy", "()Lcom/example/cosine/cosine/index/IntList;"⟩ : MethodName)) (z := (⟨"com/example/cosine/cosine/index/IntList", "copy", "()Lcom/example/cosine/cosine/index/IntList;"⟩ : MethodName)) hown (mvT hZ (hw _ (List.mem_of_getElem? (i := 40) rfl))) (mvT hZ (hw _ (List.mem_of_getElem? (i := 41) rfl))) (notFace_of_selects (args := #[]) (mvT hZ (hw _ (List.mem_of_getElem? (i := 43) rfl)))) (mvT hZ (hw _ (List.mem_of_getElem? (i := 43) rfl))) (mvT hZ (hw _ (List.mem_of_getElem? (i := 42) rfl))) (by decide) (backOf (W := 0) (rm8 l Z a0 hw [] b47 ar51 ka51 za51 [p3, p4, p5] T51.heap n0 (Nat.le_trans (Nat.le_trans (Nat.le_trans (Nat.le_trans (Nat.le_trans Z0 E47.1) K48.1) K49.1) K50.1) K51.1) (I51) ((Nat.le_of_ble_eq_true rfl))) hZ (hw _ (List.mem_of_getElem? (i := 44) rfl)) (hw _ (List.mem_of_getElem? (i := 2) rfl)) (by decide) (by decide)) q52a q52c (g := (mkF m 61 #[.val (.int p1), .val (.int p2), .val (.int p3), .val (.int p4), .val (.int p5), .val (.int p6), .val (.int (3 : Int32)), .val (.int (p6 ^^^ (-1 : Int32))), .val (.ref b47), .unset, .unset] [(.ref b47)])) rfl (by rw [hml]; rfl) (Steps.refl _) (argsL := []) (rest := []) (lenOf pd_4 rfl) rfl (by show 2 * 0 + _ ≤ _; exact Nat.le_of_eq rfl) (hb hby at_61) (fun _ _ => ⟨rfl, rfl, (by decide : 5 + 3 ≤ _), (by decide : 34 + 18 ≤ _)⟩)
    dsimp only [Pt.U, Pt.locs, Pt.cells, Pt.slots] at X52 l52 y52 z52 st52 hQ52
    subst l52 y52 z52
    obtain ⟨cc52, ca52, kc52, rfl, N52q, K52, I52, g_cc52, g_ca52, u52, w52⟩ := hQ52
    have N52 := Fr.app N51 N52q
    have ne_ar51_cc52 : ar51 ≠ cc52 := Nat.ne_of_lt (Nat.lt_of_lt_of_le I51.2.2.2.2.1.lt u52)
    have ne_b47_cc52 : b47 ≠ cc52 := Nat.ne_of_lt (Nat.lt_of_lt_of_le I51.1.lt u52)
    have ne_ar51_ca52 : ar51 ≠ ca52 := Nat.ne_of_lt (Nat.lt_of_lt_of_le I51.2.2.2.2.1.lt w52)
    have ne_b47_ca52 : b47 ≠ ca52 := Nat.ne_of_lt (Nat.lt_of_lt_of_le I51.1.lt w52)
    have ne_cc52_ca52 : cc52 ≠ ca52 := I52.2.2.2.2.2.2.2.2
    have IK53 := IL.keep I51 K52 nin0 nin0
    refine Goes.tr (U' := T52.setTop (mkF m 64 #[.val (.int p1), .val (.int p2), .val (.int p3), .val (.int p4), .val (.int p5), .val (.int p6), .val (.int (3 : Int32)), .val (.int (p6 ^^^ (-1 : Int32))), .val (.ref b47), .unset, .unset] [(.ref cc52)])) st52 ?_
    refine Goes.st (U' := T52.setTop (mkF m 66 #[.val (.int p1), .val (.int p2), .val (.int p3), .val (.int p4), .val (.int p5), .val (.int p6), .val (.int (3 : Int32)), .val (.int (p6 ^^^ (-1 : Int32))), .val (.ref b47), .val (.ref cc52), .unset] [])) (fun t k => XS.astore X52.here hx rfl (hb hby at_64) rfl rfl (l' := #[.val (.int p1), .val (.int p2), .val (.int p3), .val (.int p4), .val (.int p5), .val (.int p6), .val (.int (3 : Int32)), .val (.int (p6 ^^^ (-1 : Int32))), .val (.ref b47), .val (.ref cc52), .unset]) rfl k) ?_
    refine Goes.st (U' := T52.setTop (mkF m 68 #[.val (.int p1), .val (.int p2), .val (.int p3), .val (.int p4), .val (.int p5), .val (.int p6), .val (.int (3 : Int32)), .val (.int (p6 ^^^ (-1 : Int32))), .val (.ref b47), .val (.ref cc52), .unset] [(.ref cc52)])) (fun t k => XS.aload X52.here hx rfl (hb hby at_66) rfl rfl k) ?_
    obtain ⟨cq54, kq54, q54a, q54b, q54c⟩ := isOf hZ rfl I52.1
    obtain ⟨_, _, ⟨T54, L54, k54, n54⟩, -, X54, ⟨Lc54, hQ54, l54, y54, z54⟩, st54⟩ := X52.virtualBack hx (y := (⟨"com/example/cosine/cosine/index/IntList", "size", "()I"⟩ : MethodName)) (z := (⟨"com/example/cosine/cosine/index/IntList", "size", "()I"⟩ : MethodName)) hown (mvT hZ (hw _ (List.mem_of_getElem? (i := 47) rfl))) (mvT hZ (hw _ (List.mem_of_getElem? (i := 48) rfl))) (notFace_of_selects (args := #[]) (mvT hZ (hw _ (List.mem_of_getElem? (i := 50) rfl)))) (mvT hZ (hw _ (List.mem_of_getElem? (i := 50) rfl))) (mvT hZ (hw _ (List.mem_of_getElem? (i := 49) rfl))) (by decide) (backOf (W := 0) (rm9 l Z a0 hw [] cc52 ca52 kc52 ([p3, p4, p5].length.toInt32) [p3, p4, p5] T52.heap n0 (Nat.le_trans (Nat.le_trans (Nat.le_trans (Nat.le_trans (Nat.le_trans (Nat.le_trans Z0 E47.1) K48.1) K49.1) K50.1) K51.1) K52.1) (I52)) hZ (hw _ (List.mem_of_getElem? (i := 51) rfl)) (hw _ (List.mem_of_getElem? (i := 2) rfl)) (by decide) (by decide)) q54a q54c (g := (mkF m 68 #[.val (.int p1), .val (.int p2), .val (.int p3), .val (.int p4), .val (.int p5), .val (.int p6), .val (.int (3 : Int32)), .val (.int (p6 ^^^ (-1 : Int32))), .val (.ref b47), .val (.ref cc52), .unset] [(.ref cc52)])) rfl (by rw [hml]; rfl) (Steps.refl _) (argsL := []) (rest := []) (lenOf pd_5 rfl) rfl (by show 2 * 0 + _ ≤ _; exact Nat.le_of_eq rfl) (hb hby at_68) (fun _ _ => ⟨rfl, rfl, (by decide : 8 + 0 ≤ _), (by decide : 52 + 0 ≤ _)⟩)
    dsimp only [Pt.U, Pt.locs, Pt.cells, Pt.slots] at X54 l54 y54 z54 st54 hQ54
    subst l54 y54 z54
    obtain ⟨rfl, N54q, e54⟩ := hQ54
    have N54 := Fr.app N52 N54q
    replace e54 := e54
    refine Goes.tr (U' := T54.setTop (mkF m 71 #[.val (.int p1), .val (.int p2), .val (.int p3), .val (.int p4), .val (.int p5), .val (.int p6), .val (.int (3 : Int32)), .val (.int (p6 ^^^ (-1 : Int32))), .val (.ref b47), .val (.ref cc52), .unset] [(.int (3 : Int32))])) st54 ?_
    refine Goes.st (U' := T54.setTop (mkF m 73 #[.val (.int p1), .val (.int p2), .val (.int p3), .val (.int p4), .val (.int p5), .val (.int p6), .val (.int (3 : Int32)), .val (.int (p6 ^^^ (-1 : Int32))), .val (.ref b47), .val (.ref cc52), .unset] [(.int (3 : Int32)), (.int (3 : Int32))])) (fun t k => XS.iload X54.here hx rfl (hb hby at_71) rfl k) ?_
    refine Goes.st (U' := T54.setTop (mkF m 76 #[.val (.int p1), .val (.int p2), .val (.int p3), .val (.int p4), .val (.int p5), .val (.int p6), .val (.int (3 : Int32)), .val (.int (p6 ^^^ (-1 : Int32))), .val (.ref b47), .val (.ref cc52), .unset] [])) (fun t k => XS.icmpNo X54.here hx rfl (hb hby at_73) rfl (teq (rfl : (3 : Int32) = (3 : Int32))).2 k) ?_
    refine Goes.st (U' := T54.setTop (mkF m 77 #[.val (.int p1), .val (.int p2), .val (.int p3), .val (.int p4), .val (.int p5), .val (.int p6), .val (.int (3 : Int32)), .val (.int (p6 ^^^ (-1 : Int32))), .val (.ref b47), .val (.ref cc52), .unset] [(.int (1 : Int32))])) (fun t k => XS.iconst X54.here hx rfl (hb hby at_76) k) ?_
    refine Goes.st (U' := T54.setTop (mkF m 81 #[.val (.int p1), .val (.int p2), .val (.int p3), .val (.int p4), .val (.int p5), .val (.int p6), .val (.int (3 : Int32)), .val (.int (p6 ^^^ (-1 : Int32))), .val (.ref b47), .val (.ref cc52), .unset] [(.int (1 : Int32))])) (fun t k => XS.goto X54.here hx rfl (pc0 := 77) (pc' := 81) rfl (hb hby at_77) (by decide) (by decide) k) ?_
    refine Goes.st (U' := T54.setTop (mkF m 83 #[.val (.int p1), .val (.int p2), .val (.int p3), .val (.int p4), .val (.int p5), .val (.int p6), .val (.int (3 : Int32)), .val (.int (p6 ^^^ (-1 : Int32))), .val (.ref b47), .val (.ref cc52), .val (.int (1 : Int32))] [])) (fun t k => XS.istore X54.here hx rfl (hb hby at_81) rfl (l' := #[.val (.int p1), .val (.int p2), .val (.int p3), .val (.int p4), .val (.int p5), .val (.int p6), .val (.int (3 : Int32)), .val (.int (p6 ^^^ (-1 : Int32))), .val (.ref b47), .val (.ref cc52), .val (.int (1 : Int32))]) rfl k) ?_
    refine Goes.st (U' := T54.setTop (mkF m 85 #[.val (.int p1), .val (.int p2), .val (.int p3), .val (.int p4), .val (.int p5), .val (.int p6), .val (.int (3 : Int32)), .val (.int (p6 ^^^ (-1 : Int32))), .val (.ref b47), .val (.ref cc52), .val (.int (1 : Int32))] [(.ref cc52)])) (fun t k => XS.aload X54.here hx rfl (hb hby at_83) rfl rfl k) ?_
    refine Goes.st (U' := T54.setTop (mkF m 87 #[.val (.int p1), .val (.int p2), .val (.int p3), .val (.int p4), .val (.int p5), .val (.int p6), .val (.int (3 : Int32)), .val (.int (p6 ^^^ (-1 : Int32))), .val (.ref b47), .val (.ref cc52), .val (.int (1 : Int32))] [(.int p6), (.ref cc52)])) (fun t k => XS.iload X54.here hx rfl (hb hby at_85) rfl k) ?_
    obtain ⟨cq55, kq55, q55a, q55b, q55c⟩ := isOf hZ e54 I52.1
    obtain ⟨_, _, ⟨T55, L55, k55, n55⟩, -, X55, ⟨Lc55, hQ55, l55, y55, z55⟩, st55⟩ := X54.virtualBack hx (y := (⟨"com/example/cosine/cosine/index/IntList", "add", "(I)V"⟩ : MethodName)) (z := (⟨"com/example/cosine/cosine/index/IntList", "add", "(I)V"⟩ : MethodName)) hown (mvT hZ (hw _ (List.mem_of_getElem? (i := 12) rfl))) (mvT hZ (hw _ (List.mem_of_getElem? (i := 13) rfl))) (notFace_of_selects (args := #[]) (mvT hZ (hw _ (List.mem_of_getElem? (i := 15) rfl)))) (mvT hZ (hw _ (List.mem_of_getElem? (i := 15) rfl))) (mvT hZ (hw _ (List.mem_of_getElem? (i := 14) rfl))) (by decide) (backOf (W := 0) (rm3 l Z a0 hw [] cc52 p6 ca52 kc52 ([p3, p4, p5].length.toInt32) [p3, p4, p5] T52.heap n0 (Nat.le_trans (Nat.le_trans (Nat.le_trans (Nat.le_trans (Nat.le_trans (Nat.le_trans Z0 E47.1) K48.1) K49.1) K50.1) K51.1) K52.1) (I52) ((Nat.le_of_ble_eq_true rfl)) (g_cc52) (g_ca52)) hZ (hw _ (List.mem_of_getElem? (i := 16) rfl)) (hw _ (List.mem_of_getElem? (i := 2) rfl)) (by decide) (by decide)) q55a q55c (g := (mkF m 87 #[.val (.int p1), .val (.int p2), .val (.int p3), .val (.int p4), .val (.int p5), .val (.int p6), .val (.int (3 : Int32)), .val (.int (p6 ^^^ (-1 : Int32))), .val (.ref b47), .val (.ref cc52), .val (.int (1 : Int32))] [(.int p6), (.ref cc52)])) rfl (by rw [hml]; rfl) (Steps.refl _) (argsL := [(.int p6)]) (rest := []) (lenOf pd_3 rfl) rfl (by show 2 * 0 + _ ≤ _; exact Nat.le_of_eq rfl) (hb hby at_87) (fun _ _ => ⟨rfl, e54, (by decide : 8 + 1 ≤ _), (by decide : 52 + 8 ≤ _)⟩)
    dsimp only [Pt.U, Pt.locs, Pt.cells, Pt.slots] at X55 l55 y55 z55 st55 hQ55
    subst l55 y55 z55
    obtain ⟨rfl, N55q, K55, ar55, ka55, za55, I55, g_ar55, u55⟩ := hQ55
    have N55 := Fr.app N54 N55q
    have ne_ar51_ar55 : ar51 ≠ ar55 := u55.elim (fun q => q ▸ ne_ar51_ca52) (fun q => Nat.ne_of_lt (Nat.lt_of_lt_of_le (I51.2.2.2.2.1.keep K52).lt q))
    have ne_b47_ar55 : b47 ≠ ar55 := u55.elim (fun q => q ▸ ne_b47_ca52) (fun q => Nat.ne_of_lt (Nat.lt_of_lt_of_le (I51.1.keep K52).lt q))
    have ne_cc52_ar55 : cc52 ≠ ar55 := I55.2.2.2.2.2.2.2.2
    have IK56 := IL.keep IK53 K55 (ninS ne_b47_cc52 (ninS ne_b47_ca52 nin0)) (ninS ne_ar51_cc52 (ninS ne_ar51_ca52 nin0))
    refine Goes.tr (U' := T55.setTop (mkF m 90 #[.val (.int p1), .val (.int p2), .val (.int p3), .val (.int p4), .val (.int p5), .val (.int p6), .val (.int (3 : Int32)), .val (.int (p6 ^^^ (-1 : Int32))), .val (.ref b47), .val (.ref cc52), .val (.int (1 : Int32))] [])) st55 ?_
    refine Goes.st (U' := T55.setTop (mkF m 92 #[.val (.int p1), .val (.int p2), .val (.int p3), .val (.int p4), .val (.int p5), .val (.int p6), .val (.int (3 : Int32)), .val (.int (p6 ^^^ (-1 : Int32))), .val (.ref b47), .val (.ref cc52), .val (.int (1 : Int32))] [(.ref b47)])) (fun t k => XS.aload X55.here hx rfl (hb hby at_90) rfl rfl k) ?_
    refine Goes.st (U' := T55.setTop (mkF m 94 #[.val (.int p1), .val (.int p2), .val (.int p3), .val (.int p4), .val (.int p5), .val (.int p6), .val (.int (3 : Int32)), .val (.int (p6 ^^^ (-1 : Int32))), .val (.ref b47), .val (.ref cc52), .val (.int (1 : Int32))] [(.int (p6 ^^^ (-1 : Int32))), (.ref b47)])) (fun t k => XS.iload X55.here hx rfl (hb hby at_92) rfl k) ?_
    obtain ⟨cq57, kq57, q57a, q57b, q57c⟩ := isOf hZ rfl ((I51.1.keep K52).keep K55)
    obtain ⟨_, _, ⟨T57, L57, k57, n57⟩, -, X57, ⟨Lc57, hQ57, l57, y57, z57⟩, st57⟩ := X55.virtualBack hx (y := (⟨"com/example/cosine/cosine/index/IntList", "add", "(I)V"⟩ : MethodName)) (z := (⟨"com/example/cosine/cosine/index/IntList", "add", "(I)V"⟩ : MethodName)) hown (mvT hZ (hw _ (List.mem_of_getElem? (i := 12) rfl))) (mvT hZ (hw _ (List.mem_of_getElem? (i := 13) rfl))) (notFace_of_selects (args := #[]) (mvT hZ (hw _ (List.mem_of_getElem? (i := 15) rfl)))) (mvT hZ (hw _ (List.mem_of_getElem? (i := 15) rfl))) (mvT hZ (hw _ (List.mem_of_getElem? (i := 14) rfl))) (by decide) (backOf (W := 0) (rm3 l Z a0 hw [] b47 (p6 ^^^ (-1 : Int32)) ar51 ka51 za51 [p3, p4, p5] T55.heap n0 (Nat.le_trans (Nat.le_trans (Nat.le_trans (Nat.le_trans (Nat.le_trans (Nat.le_trans (Nat.le_trans Z0 E47.1) K48.1) K49.1) K50.1) K51.1) K52.1) K55.1) (IK56) ((Nat.le_of_ble_eq_true rfl)) (g_b47) (g_ar51)) hZ (hw _ (List.mem_of_getElem? (i := 16) rfl)) (hw _ (List.mem_of_getElem? (i := 2) rfl)) (by decide) (by decide)) q57a q57c (g := (mkF m 94 #[.val (.int p1), .val (.int p2), .val (.int p3), .val (.int p4), .val (.int p5), .val (.int p6), .val (.int (3 : Int32)), .val (.int (p6 ^^^ (-1 : Int32))), .val (.ref b47), .val (.ref cc52), .val (.int (1 : Int32))] [(.int (p6 ^^^ (-1 : Int32))), (.ref b47)])) rfl (by rw [hml]; rfl) (Steps.refl _) (argsL := [(.int (p6 ^^^ (-1 : Int32)))]) (rest := []) (lenOf pd_3 rfl) rfl (by show 2 * 0 + _ ≤ _; exact Nat.le_of_eq rfl) (hb hby at_94) (fun _ _ => ⟨rfl, rfl, (by decide : 9 + 1 ≤ _), (by decide : 60 + 8 ≤ _)⟩)
    dsimp only [Pt.U, Pt.locs, Pt.cells, Pt.slots] at X57 l57 y57 z57 st57 hQ57
    subst l57 y57 z57
    obtain ⟨rfl, N57q, K57, ar57, ka57, za57, I57, g_ar57, u57⟩ := hQ57
    have N57 := Fr.app N55 N57q
    have ne_ar55_ar57 : ar55 ≠ ar57 := u57.elim (fun q => q ▸ (Ne.symm ne_ar51_ar55)) (fun q => Nat.ne_of_lt (Nat.lt_of_lt_of_le I55.2.2.2.2.1.lt q))
    have ne_cc52_ar57 : cc52 ≠ ar57 := u57.elim (fun q => q ▸ (Ne.symm ne_ar51_cc52)) (fun q => Nat.ne_of_lt (Nat.lt_of_lt_of_le I55.1.lt q))
    have ne_b47_ar57 : b47 ≠ ar57 := I57.2.2.2.2.2.2.2.2
    have IK58 := IL.keep I55 K57 (ninS (Ne.symm ne_b47_cc52) (ninS (Ne.symm ne_ar51_cc52) nin0)) (ninS (Ne.symm ne_b47_ar55) (ninS (Ne.symm ne_ar51_ar55) nin0))
    refine Goes.tr (U' := T57.setTop (mkF m 97 #[.val (.int p1), .val (.int p2), .val (.int p3), .val (.int p4), .val (.int p5), .val (.int p6), .val (.int (3 : Int32)), .val (.int (p6 ^^^ (-1 : Int32))), .val (.ref b47), .val (.ref cc52), .val (.int (1 : Int32))] [])) st57 ?_
    refine Goes.st (U' := T57.setTop (mkF m 99 #[.val (.int p1), .val (.int p2), .val (.int p3), .val (.int p4), .val (.int p5), .val (.int p6), .val (.int (3 : Int32)), .val (.int (p6 ^^^ (-1 : Int32))), .val (.ref b47), .val (.ref cc52), .val (.int (1 : Int32))] [(.int (1 : Int32))])) (fun t k => XS.iload X57.here hx rfl (hb hby at_97) rfl k) ?_
    refine Goes.st (U' := T57.setTop (mkF m 102 #[.val (.int p1), .val (.int p2), .val (.int p3), .val (.int p4), .val (.int p5), .val (.int p6), .val (.int (3 : Int32)), .val (.int (p6 ^^^ (-1 : Int32))), .val (.ref b47), .val (.ref cc52), .val (.int (1 : Int32))] [])) (fun t k => XS.ifNo X57.here hx rfl (hb hby at_99) rfl ((if0 _ _).trans (feq (by decide : ¬ ((1 : Int32) = (0 : Int32)))).1) k) ?_
    refine Goes.st (U' := T57.setTop (mkF m 104 #[.val (.int p1), .val (.int p2), .val (.int p3), .val (.int p4), .val (.int p5), .val (.int p6), .val (.int (3 : Int32)), .val (.int (p6 ^^^ (-1 : Int32))), .val (.ref b47), .val (.ref cc52), .val (.int (1 : Int32))] [(.ref cc52)])) (fun t k => XS.aload X57.here hx rfl (hb hby at_102) rfl rfl k) ?_
    obtain ⟨cq59, kq59, q59a, q59b, q59c⟩ := isOf hZ rfl (I55.1.keep K57)
    obtain ⟨_, _, ⟨T59, L59, k59, n59⟩, -, X59, ⟨Lc59, hQ59, l59, y59, z59⟩, st59⟩ := X57.virtualBack hx (y := (⟨"com/example/cosine/cosine/index/IntList", "size", "()I"⟩ : MethodName)) (z := (⟨"com/example/cosine/cosine/index/IntList", "size", "()I"⟩ : MethodName)) hown (mvT hZ (hw _ (List.mem_of_getElem? (i := 47) rfl))) (mvT hZ (hw _ (List.mem_of_getElem? (i := 48) rfl))) (notFace_of_selects (args := #[]) (mvT hZ (hw _ (List.mem_of_getElem? (i := 50) rfl)))) (mvT hZ (hw _ (List.mem_of_getElem? (i := 50) rfl))) (mvT hZ (hw _ (List.mem_of_getElem? (i := 49) rfl))) (by decide) (backOf (W := 0) (rm9 l Z a0 hw [] cc52 ar55 ka55 za55 [p3, p4, p5, p6] T57.heap n0 (Nat.le_trans (Nat.le_trans (Nat.le_trans (Nat.le_trans (Nat.le_trans (Nat.le_trans (Nat.le_trans (Nat.le_trans Z0 E47.1) K48.1) K49.1) K50.1) K51.1) K52.1) K55.1) K57.1) (IK58)) hZ (hw _ (List.mem_of_getElem? (i := 51) rfl)) (hw _ (List.mem_of_getElem? (i := 2) rfl)) (by decide) (by decide)) q59a q59c (g := (mkF m 104 #[.val (.int p1), .val (.int p2), .val (.int p3), .val (.int p4), .val (.int p5), .val (.int p6), .val (.int (3 : Int32)), .val (.int (p6 ^^^ (-1 : Int32))), .val (.ref b47), .val (.ref cc52), .val (.int (1 : Int32))] [(.ref cc52)])) rfl (by rw [hml]; rfl) (Steps.refl _) (argsL := []) (rest := []) (lenOf pd_5 rfl) rfl (by show 2 * 0 + _ ≤ _; exact Nat.le_of_eq rfl) (hb hby at_104) (fun _ _ => ⟨rfl, rfl, (by decide : 10 + 0 ≤ _), (by decide : 68 + 0 ≤ _)⟩)
    dsimp only [Pt.U, Pt.locs, Pt.cells, Pt.slots] at X59 l59 y59 z59 st59 hQ59
    subst l59 y59 z59
    obtain ⟨rfl, N59q, e59⟩ := hQ59
    have N59 := Fr.app N57 N59q
    replace e59 := e59
    refine Goes.tr (U' := T59.setTop (mkF m 107 #[.val (.int p1), .val (.int p2), .val (.int p3), .val (.int p4), .val (.int p5), .val (.int p6), .val (.int (3 : Int32)), .val (.int (p6 ^^^ (-1 : Int32))), .val (.ref b47), .val (.ref cc52), .val (.int (1 : Int32))] [(.int (4 : Int32))])) st59 ?_
    refine Goes.st (U' := T59.setTop (mkF m 109 #[.val (.int p1), .val (.int p2), .val (.int p3), .val (.int p4), .val (.int p5), .val (.int p6), .val (.int (3 : Int32)), .val (.int (p6 ^^^ (-1 : Int32))), .val (.ref b47), .val (.ref cc52), .val (.int (1 : Int32))] [(.int (3 : Int32)), (.int (4 : Int32))])) (fun t k => XS.iload X59.here hx rfl (hb hby at_107) rfl k) ?_
    refine Goes.st (U' := T59.setTop (mkF m 110 #[.val (.int p1), .val (.int p2), .val (.int p3), .val (.int p4), .val (.int p5), .val (.int p6), .val (.int (3 : Int32)), .val (.int (p6 ^^^ (-1 : Int32))), .val (.ref b47), .val (.ref cc52), .val (.int (1 : Int32))] [(.int (1 : Int32)), (.int (3 : Int32)), (.int (4 : Int32))])) (fun t k => XS.iconst X59.here hx rfl (hb hby at_109) k) ?_
    refine Goes.st (U' := T59.setTop (mkF m 111 #[.val (.int p1), .val (.int p2), .val (.int p3), .val (.int p4), .val (.int p5), .val (.int p6), .val (.int (3 : Int32)), .val (.int (p6 ^^^ (-1 : Int32))), .val (.ref b47), .val (.ref cc52), .val (.int (1 : Int32))] [(.int (4 : Int32)), (.int (4 : Int32))])) (fun t k => XS.iadd X59.here hx rfl (hb hby at_110) rfl k) ?_
    refine Goes.st (U' := T59.setTop (mkF m 114 #[.val (.int p1), .val (.int p2), .val (.int p3), .val (.int p4), .val (.int p5), .val (.int p6), .val (.int (3 : Int32)), .val (.int (p6 ^^^ (-1 : Int32))), .val (.ref b47), .val (.ref cc52), .val (.int (1 : Int32))] [])) (fun t k => XS.icmpNo X59.here hx rfl (hb hby at_111) rfl (teq (rfl : (4 : Int32) = (4 : Int32))).2 k) ?_
    refine Goes.st (U' := T59.setTop (mkF m 116 #[.val (.int p1), .val (.int p2), .val (.int p3), .val (.int p4), .val (.int p5), .val (.int p6), .val (.int (3 : Int32)), .val (.int (p6 ^^^ (-1 : Int32))), .val (.ref b47), .val (.ref cc52), .val (.int (1 : Int32))] [(.ref b47)])) (fun t k => XS.aload X59.here hx rfl (hb hby at_114) rfl rfl k) ?_
    obtain ⟨cq60, kq60, q60a, q60b, q60c⟩ := isOf hZ e59 I57.1
    obtain ⟨_, _, ⟨T60, L60, k60, n60⟩, -, X60, ⟨Lc60, hQ60, l60, y60, z60⟩, st60⟩ := X59.virtualBack hx (y := (⟨"com/example/cosine/cosine/index/IntList", "size", "()I"⟩ : MethodName)) (z := (⟨"com/example/cosine/cosine/index/IntList", "size", "()I"⟩ : MethodName)) hown (mvT hZ (hw _ (List.mem_of_getElem? (i := 47) rfl))) (mvT hZ (hw _ (List.mem_of_getElem? (i := 48) rfl))) (notFace_of_selects (args := #[]) (mvT hZ (hw _ (List.mem_of_getElem? (i := 50) rfl)))) (mvT hZ (hw _ (List.mem_of_getElem? (i := 50) rfl))) (mvT hZ (hw _ (List.mem_of_getElem? (i := 49) rfl))) (by decide) (backOf (W := 0) (rm9 l Z a0 hw [] b47 ar57 ka57 za57 [p3, p4, p5, (p6 ^^^ (-1 : Int32))] T57.heap n0 (Nat.le_trans (Nat.le_trans (Nat.le_trans (Nat.le_trans (Nat.le_trans (Nat.le_trans (Nat.le_trans (Nat.le_trans Z0 E47.1) K48.1) K49.1) K50.1) K51.1) K52.1) K55.1) K57.1) (I57)) hZ (hw _ (List.mem_of_getElem? (i := 51) rfl)) (hw _ (List.mem_of_getElem? (i := 2) rfl)) (by decide) (by decide)) q60a q60c (g := (mkF m 116 #[.val (.int p1), .val (.int p2), .val (.int p3), .val (.int p4), .val (.int p5), .val (.int p6), .val (.int (3 : Int32)), .val (.int (p6 ^^^ (-1 : Int32))), .val (.ref b47), .val (.ref cc52), .val (.int (1 : Int32))] [(.ref b47)])) rfl (by rw [hml]; rfl) (Steps.refl _) (argsL := []) (rest := []) (lenOf pd_5 rfl) rfl (by show 2 * 0 + _ ≤ _; exact Nat.le_of_eq rfl) (hb hby at_116) (fun _ _ => ⟨rfl, e59, (by decide : 10 + 0 ≤ _), (by decide : 68 + 0 ≤ _)⟩)
    dsimp only [Pt.U, Pt.locs, Pt.cells, Pt.slots] at X60 l60 y60 z60 st60 hQ60
    subst l60 y60 z60
    obtain ⟨rfl, N60q, e60⟩ := hQ60
    have N60 := Fr.app N59 N60q
    replace e60 := e60
    refine Goes.tr (U' := T60.setTop (mkF m 119 #[.val (.int p1), .val (.int p2), .val (.int p3), .val (.int p4), .val (.int p5), .val (.int p6), .val (.int (3 : Int32)), .val (.int (p6 ^^^ (-1 : Int32))), .val (.ref b47), .val (.ref cc52), .val (.int (1 : Int32))] [(.int (4 : Int32))])) st60 ?_
    refine Goes.st (U' := T60.setTop (mkF m 121 #[.val (.int p1), .val (.int p2), .val (.int p3), .val (.int p4), .val (.int p5), .val (.int p6), .val (.int (3 : Int32)), .val (.int (p6 ^^^ (-1 : Int32))), .val (.ref b47), .val (.ref cc52), .val (.int (1 : Int32))] [(.int (3 : Int32)), (.int (4 : Int32))])) (fun t k => XS.iload X60.here hx rfl (hb hby at_119) rfl k) ?_
    refine Goes.st (U' := T60.setTop (mkF m 122 #[.val (.int p1), .val (.int p2), .val (.int p3), .val (.int p4), .val (.int p5), .val (.int p6), .val (.int (3 : Int32)), .val (.int (p6 ^^^ (-1 : Int32))), .val (.ref b47), .val (.ref cc52), .val (.int (1 : Int32))] [(.int (1 : Int32)), (.int (3 : Int32)), (.int (4 : Int32))])) (fun t k => XS.iconst X60.here hx rfl (hb hby at_121) k) ?_
    refine Goes.st (U' := T60.setTop (mkF m 123 #[.val (.int p1), .val (.int p2), .val (.int p3), .val (.int p4), .val (.int p5), .val (.int p6), .val (.int (3 : Int32)), .val (.int (p6 ^^^ (-1 : Int32))), .val (.ref b47), .val (.ref cc52), .val (.int (1 : Int32))] [(.int (4 : Int32)), (.int (4 : Int32))])) (fun t k => XS.iadd X60.here hx rfl (hb hby at_122) rfl k) ?_
    refine Goes.st (U' := T60.setTop (mkF m 126 #[.val (.int p1), .val (.int p2), .val (.int p3), .val (.int p4), .val (.int p5), .val (.int p6), .val (.int (3 : Int32)), .val (.int (p6 ^^^ (-1 : Int32))), .val (.ref b47), .val (.ref cc52), .val (.int (1 : Int32))] [])) (fun t k => XS.icmpNo X60.here hx rfl (hb hby at_123) rfl (teq (rfl : (4 : Int32) = (4 : Int32))).2 k) ?_
    refine Goes.st (U' := T60.setTop (mkF m 127 #[.val (.int p1), .val (.int p2), .val (.int p3), .val (.int p4), .val (.int p5), .val (.int p6), .val (.int (3 : Int32)), .val (.int (p6 ^^^ (-1 : Int32))), .val (.ref b47), .val (.ref cc52), .val (.int (1 : Int32))] [(.int (1 : Int32))])) (fun t k => XS.iconst X60.here hx rfl (hb hby at_126) k) ?_
    refine Goes.st (U' := T60.setTop (mkF m 131 #[.val (.int p1), .val (.int p2), .val (.int p3), .val (.int p4), .val (.int p5), .val (.int p6), .val (.int (3 : Int32)), .val (.int (p6 ^^^ (-1 : Int32))), .val (.ref b47), .val (.ref cc52), .val (.int (1 : Int32))] [(.int (1 : Int32))])) (fun t k => XS.goto X60.here hx rfl (pc0 := 127) (pc' := 131) rfl (hb hby at_127) (by decide) (by decide) k) ?_
    refine Goes.st (U' := T60.setTop (mkF m 133 #[.val (.int p1), .val (.int p2), .val (.int p3), .val (.int p4), .val (.int p5), .val (.int p6), .val (.int (3 : Int32)), .val (.int (p6 ^^^ (-1 : Int32))), .val (.ref b47), .val (.ref cc52), .val (.int (1 : Int32))] [])) (fun t k => XS.istore X60.here hx rfl (hb hby at_131) rfl (l' := #[.val (.int p1), .val (.int p2), .val (.int p3), .val (.int p4), .val (.int p5), .val (.int p6), .val (.int (3 : Int32)), .val (.int (p6 ^^^ (-1 : Int32))), .val (.ref b47), .val (.ref cc52), .val (.int (1 : Int32))]) rfl k) ?_
    refine Goes.st (U' := T60.setTop (mkF m 135 #[.val (.int p1), .val (.int p2), .val (.int p3), .val (.int p4), .val (.int p5), .val (.int p6), .val (.int (3 : Int32)), .val (.int (p6 ^^^ (-1 : Int32))), .val (.ref b47), .val (.ref cc52), .val (.int (1 : Int32))] [(.int (1 : Int32))])) (fun t k => XS.iload X60.here hx rfl (hb hby at_133) rfl k) ?_
    refine Goes.st (U' := T60.setTop (mkF m 138 #[.val (.int p1), .val (.int p2), .val (.int p3), .val (.int p4), .val (.int p5), .val (.int p6), .val (.int (3 : Int32)), .val (.int (p6 ^^^ (-1 : Int32))), .val (.ref b47), .val (.ref cc52), .val (.int (1 : Int32))] [])) (fun t k => XS.ifNo X60.here hx rfl (hb hby at_135) rfl ((if0 _ _).trans (feq (by decide : ¬ ((1 : Int32) = (0 : Int32)))).1) k) ?_
    refine Goes.st (U' := T60.setTop (mkF m 140 #[.val (.int p1), .val (.int p2), .val (.int p3), .val (.int p4), .val (.int p5), .val (.int p6), .val (.int (3 : Int32)), .val (.int (p6 ^^^ (-1 : Int32))), .val (.ref b47), .val (.ref cc52), .val (.int (1 : Int32))] [(.ref cc52)])) (fun t k => XS.aload X60.here hx rfl (hb hby at_138) rfl rfl k) ?_
    refine Goes.st (U' := T60.setTop (mkF m 142 #[.val (.int p1), .val (.int p2), .val (.int p3), .val (.int p4), .val (.int p5), .val (.int p6), .val (.int (3 : Int32)), .val (.int (p6 ^^^ (-1 : Int32))), .val (.ref b47), .val (.ref cc52), .val (.int (1 : Int32))] [(.int (3 : Int32)), (.ref cc52)])) (fun t k => XS.iload X60.here hx rfl (hb hby at_140) rfl k) ?_
    obtain ⟨cq61, kq61, q61a, q61b, q61c⟩ := isOf hZ e60 (I55.1.keep K57)
    obtain ⟨_, _, ⟨T61, L61, k61, n61⟩, -, X61, ⟨Lc61, hQ61, l61, y61, z61⟩, st61⟩ := X60.virtualBack hx (y := (⟨"com/example/cosine/cosine/index/IntList", "get", "(I)I"⟩ : MethodName)) (z := (⟨"com/example/cosine/cosine/index/IntList", "get", "(I)I"⟩ : MethodName)) hown (mvT hZ (hw _ (List.mem_of_getElem? (i := 52) rfl))) (mvT hZ (hw _ (List.mem_of_getElem? (i := 53) rfl))) (notFace_of_selects (args := #[]) (mvT hZ (hw _ (List.mem_of_getElem? (i := 55) rfl)))) (mvT hZ (hw _ (List.mem_of_getElem? (i := 55) rfl))) (mvT hZ (hw _ (List.mem_of_getElem? (i := 54) rfl))) (by decide) (backOf (W := 0) (rm10 l Z a0 hw [] cc52 (3 : Int32) ar55 ka55 za55 [p3, p4, p5, p6] p6 T57.heap n0 (Nat.le_trans (Nat.le_trans (Nat.le_trans (Nat.le_trans (Nat.le_trans (Nat.le_trans (Nat.le_trans (Nat.le_trans Z0 E47.1) K48.1) K49.1) K50.1) K51.1) K52.1) K55.1) K57.1) (IK58) ((by decide)) ((Nat.le_of_ble_eq_true rfl)) (rfl)) hZ (hw _ (List.mem_of_getElem? (i := 56) rfl)) (hw _ (List.mem_of_getElem? (i := 2) rfl)) (by decide) (by decide)) q61a q61c (g := (mkF m 142 #[.val (.int p1), .val (.int p2), .val (.int p3), .val (.int p4), .val (.int p5), .val (.int p6), .val (.int (3 : Int32)), .val (.int (p6 ^^^ (-1 : Int32))), .val (.ref b47), .val (.ref cc52), .val (.int (1 : Int32))] [(.int (3 : Int32)), (.ref cc52)])) rfl (by rw [hml]; rfl) (Steps.refl _) (argsL := [(.int (3 : Int32))]) (rest := []) (lenOf pd_6 rfl) rfl (by show 2 * 0 + _ ≤ _; exact Nat.le_of_eq rfl) (hb hby at_142) (fun _ _ => ⟨rfl, e60, (by decide : 10 + 0 ≤ _), (by decide : 68 + 0 ≤ _)⟩)
    dsimp only [Pt.U, Pt.locs, Pt.cells, Pt.slots] at X61 l61 y61 z61 st61 hQ61
    subst l61 y61 z61
    obtain ⟨rfl, N61q, e61⟩ := hQ61
    have N61 := Fr.app N60 N61q
    replace e61 := e61
    refine Goes.tr (U' := T61.setTop (mkF m 145 #[.val (.int p1), .val (.int p2), .val (.int p3), .val (.int p4), .val (.int p5), .val (.int p6), .val (.int (3 : Int32)), .val (.int (p6 ^^^ (-1 : Int32))), .val (.ref b47), .val (.ref cc52), .val (.int (1 : Int32))] [(.int p6)])) st61 ?_
    refine Goes.st (U' := T61.setTop (mkF m 147 #[.val (.int p1), .val (.int p2), .val (.int p3), .val (.int p4), .val (.int p5), .val (.int p6), .val (.int (3 : Int32)), .val (.int (p6 ^^^ (-1 : Int32))), .val (.ref b47), .val (.ref cc52), .val (.int (1 : Int32))] [(.int p6), (.int p6)])) (fun t k => XS.iload X61.here hx rfl (hb hby at_145) rfl k) ?_
    refine Goes.st (U' := T61.setTop (mkF m 150 #[.val (.int p1), .val (.int p2), .val (.int p3), .val (.int p4), .val (.int p5), .val (.int p6), .val (.int (3 : Int32)), .val (.int (p6 ^^^ (-1 : Int32))), .val (.ref b47), .val (.ref cc52), .val (.int (1 : Int32))] [])) (fun t k => XS.icmpNo X61.here hx rfl (hb hby at_147) rfl (teq (rfl : p6 = p6)).2 k) ?_
    refine Goes.st (U' := T61.setTop (mkF m 152 #[.val (.int p1), .val (.int p2), .val (.int p3), .val (.int p4), .val (.int p5), .val (.int p6), .val (.int (3 : Int32)), .val (.int (p6 ^^^ (-1 : Int32))), .val (.ref b47), .val (.ref cc52), .val (.int (1 : Int32))] [(.ref b47)])) (fun t k => XS.aload X61.here hx rfl (hb hby at_150) rfl rfl k) ?_
    refine Goes.st (U' := T61.setTop (mkF m 154 #[.val (.int p1), .val (.int p2), .val (.int p3), .val (.int p4), .val (.int p5), .val (.int p6), .val (.int (3 : Int32)), .val (.int (p6 ^^^ (-1 : Int32))), .val (.ref b47), .val (.ref cc52), .val (.int (1 : Int32))] [(.int (3 : Int32)), (.ref b47)])) (fun t k => XS.iload X61.here hx rfl (hb hby at_152) rfl k) ?_
    obtain ⟨cq62, kq62, q62a, q62b, q62c⟩ := isOf hZ e61 I57.1
    obtain ⟨_, _, ⟨T62, L62, k62, n62⟩, -, X62, ⟨Lc62, hQ62, l62, y62, z62⟩, st62⟩ := X61.virtualBack hx (y := (⟨"com/example/cosine/cosine/index/IntList", "get", "(I)I"⟩ : MethodName)) (z := (⟨"com/example/cosine/cosine/index/IntList", "get", "(I)I"⟩ : MethodName)) hown (mvT hZ (hw _ (List.mem_of_getElem? (i := 52) rfl))) (mvT hZ (hw _ (List.mem_of_getElem? (i := 53) rfl))) (notFace_of_selects (args := #[]) (mvT hZ (hw _ (List.mem_of_getElem? (i := 55) rfl)))) (mvT hZ (hw _ (List.mem_of_getElem? (i := 55) rfl))) (mvT hZ (hw _ (List.mem_of_getElem? (i := 54) rfl))) (by decide) (backOf (W := 0) (rm10 l Z a0 hw [] b47 (3 : Int32) ar57 ka57 za57 [p3, p4, p5, (p6 ^^^ (-1 : Int32))] (p6 ^^^ (-1 : Int32)) T57.heap n0 (Nat.le_trans (Nat.le_trans (Nat.le_trans (Nat.le_trans (Nat.le_trans (Nat.le_trans (Nat.le_trans (Nat.le_trans Z0 E47.1) K48.1) K49.1) K50.1) K51.1) K52.1) K55.1) K57.1) (I57) ((by decide)) ((Nat.le_of_ble_eq_true rfl)) (rfl)) hZ (hw _ (List.mem_of_getElem? (i := 56) rfl)) (hw _ (List.mem_of_getElem? (i := 2) rfl)) (by decide) (by decide)) q62a q62c (g := (mkF m 154 #[.val (.int p1), .val (.int p2), .val (.int p3), .val (.int p4), .val (.int p5), .val (.int p6), .val (.int (3 : Int32)), .val (.int (p6 ^^^ (-1 : Int32))), .val (.ref b47), .val (.ref cc52), .val (.int (1 : Int32))] [(.int (3 : Int32)), (.ref b47)])) rfl (by rw [hml]; rfl) (Steps.refl _) (argsL := [(.int (3 : Int32))]) (rest := []) (lenOf pd_6 rfl) rfl (by show 2 * 0 + _ ≤ _; exact Nat.le_of_eq rfl) (hb hby at_154) (fun _ _ => ⟨rfl, e61, (by decide : 10 + 0 ≤ _), (by decide : 68 + 0 ≤ _)⟩)
    dsimp only [Pt.U, Pt.locs, Pt.cells, Pt.slots] at X62 l62 y62 z62 st62 hQ62
    subst l62 y62 z62
    obtain ⟨rfl, N62q, e62⟩ := hQ62
    have N62 := Fr.app N61 N62q
    replace e62 := e62
    refine Goes.tr (U' := T62.setTop (mkF m 157 #[.val (.int p1), .val (.int p2), .val (.int p3), .val (.int p4), .val (.int p5), .val (.int p6), .val (.int (3 : Int32)), .val (.int (p6 ^^^ (-1 : Int32))), .val (.ref b47), .val (.ref cc52), .val (.int (1 : Int32))] [(.int (p6 ^^^ (-1 : Int32)))])) st62 ?_
    refine Goes.st (U' := T62.setTop (mkF m 159 #[.val (.int p1), .val (.int p2), .val (.int p3), .val (.int p4), .val (.int p5), .val (.int p6), .val (.int (3 : Int32)), .val (.int (p6 ^^^ (-1 : Int32))), .val (.ref b47), .val (.ref cc52), .val (.int (1 : Int32))] [(.int (p6 ^^^ (-1 : Int32))), (.int (p6 ^^^ (-1 : Int32)))])) (fun t k => XS.iload X62.here hx rfl (hb hby at_157) rfl k) ?_
    refine Goes.st (U' := T62.setTop (mkF m 162 #[.val (.int p1), .val (.int p2), .val (.int p3), .val (.int p4), .val (.int p5), .val (.int p6), .val (.int (3 : Int32)), .val (.int (p6 ^^^ (-1 : Int32))), .val (.ref b47), .val (.ref cc52), .val (.int (1 : Int32))] [])) (fun t k => XS.icmpNo X62.here hx rfl (hb hby at_159) rfl (teq (rfl : (p6 ^^^ (-1 : Int32)) = (p6 ^^^ (-1 : Int32)))).2 k) ?_
    refine Goes.st (U' := T62.setTop (mkF m 163 #[.val (.int p1), .val (.int p2), .val (.int p3), .val (.int p4), .val (.int p5), .val (.int p6), .val (.int (3 : Int32)), .val (.int (p6 ^^^ (-1 : Int32))), .val (.ref b47), .val (.ref cc52), .val (.int (1 : Int32))] [(.int (1 : Int32))])) (fun t k => XS.iconst X62.here hx rfl (hb hby at_162) k) ?_
    refine Goes.st (U' := T62.setTop (mkF m 167 #[.val (.int p1), .val (.int p2), .val (.int p3), .val (.int p4), .val (.int p5), .val (.int p6), .val (.int (3 : Int32)), .val (.int (p6 ^^^ (-1 : Int32))), .val (.ref b47), .val (.ref cc52), .val (.int (1 : Int32))] [(.int (1 : Int32))])) (fun t k => XS.goto X62.here hx rfl (pc0 := 163) (pc' := 167) rfl (hb hby at_163) (by decide) (by decide) k) ?_
    refine Goes.st (U' := T62.setTop (mkF m 169 #[.val (.int p1), .val (.int p2), .val (.int p3), .val (.int p4), .val (.int p5), .val (.int p6), .val (.int (3 : Int32)), .val (.int (p6 ^^^ (-1 : Int32))), .val (.ref b47), .val (.ref cc52), .val (.int (1 : Int32))] [])) (fun t k => XS.istore X62.here hx rfl (hb hby at_167) rfl (l' := #[.val (.int p1), .val (.int p2), .val (.int p3), .val (.int p4), .val (.int p5), .val (.int p6), .val (.int (3 : Int32)), .val (.int (p6 ^^^ (-1 : Int32))), .val (.ref b47), .val (.ref cc52), .val (.int (1 : Int32))]) rfl k) ?_
    refine Goes.st (U' := T62.setTop (mkF m 171 #[.val (.int p1), .val (.int p2), .val (.int p3), .val (.int p4), .val (.int p5), .val (.int p6), .val (.int (3 : Int32)), .val (.int (p6 ^^^ (-1 : Int32))), .val (.ref b47), .val (.ref cc52), .val (.int (1 : Int32))] [(.int (3 : Int32))])) (fun t k => XS.iload X62.here hx rfl (hb hby at_169) rfl k) ?_
    refine Goes.st (U' := T62.setTop (mkF m 174 #[.val (.int p1), .val (.int p2), .val (.int p3), .val (.int p4), .val (.int p5), .val (.int p6), .val (.int (3 : Int32)), .val (.int (p6 ^^^ (-1 : Int32))), .val (.ref b47), .val (.ref cc52), .val (.int (1 : Int32))] [])) (fun t k => XS.ifNo X62.here hx rfl (hb hby at_171) rfl ((if0 _ _).trans (tlt (by decide : (0 : Int32) < (3 : Int32))).2.2.2) k) ?_
    refine Goes.st (U' := T62.setTop (mkF m 176 #[.val (.int p1), .val (.int p2), .val (.int p3), .val (.int p4), .val (.int p5), .val (.int p6), .val (.int (3 : Int32)), .val (.int (p6 ^^^ (-1 : Int32))), .val (.ref b47), .val (.ref cc52), .val (.int (1 : Int32))] [(.int (1 : Int32))])) (fun t k => XS.iload X62.here hx rfl (hb hby at_174) rfl k) ?_
    refine Goes.st (U' := T62.setTop (mkF m 179 #[.val (.int p1), .val (.int p2), .val (.int p3), .val (.int p4), .val (.int p5), .val (.int p6), .val (.int (3 : Int32)), .val (.int (p6 ^^^ (-1 : Int32))), .val (.ref b47), .val (.ref cc52), .val (.int (1 : Int32))] [])) (fun t k => XS.ifNo X62.here hx rfl (hb hby at_176) rfl ((if0 _ _).trans (feq (by decide : ¬ ((1 : Int32) = (0 : Int32)))).1) k) ?_
    refine Goes.st (U' := T62.setTop (mkF m 181 #[.val (.int p1), .val (.int p2), .val (.int p3), .val (.int p4), .val (.int p5), .val (.int p6), .val (.int (3 : Int32)), .val (.int (p6 ^^^ (-1 : Int32))), .val (.ref b47), .val (.ref cc52), .val (.int (1 : Int32))] [(.ref cc52)])) (fun t k => XS.aload X62.here hx rfl (hb hby at_179) rfl rfl k) ?_
    refine Goes.st (U' := T62.setTop (mkF m 182 #[.val (.int p1), .val (.int p2), .val (.int p3), .val (.int p4), .val (.int p5), .val (.int p6), .val (.int (3 : Int32)), .val (.int (p6 ^^^ (-1 : Int32))), .val (.ref b47), .val (.ref cc52), .val (.int (1 : Int32))] [(.int (0 : Int32)), (.ref cc52)])) (fun t k => XS.iconst X62.here hx rfl (hb hby at_181) k) ?_
    obtain ⟨cq63, kq63, q63a, q63b, q63c⟩ := isOf hZ e62 (I55.1.keep K57)
    obtain ⟨_, _, ⟨T63, L63, k63, n63⟩, -, X63, ⟨Lc63, hQ63, l63, y63, z63⟩, st63⟩ := X62.virtualBack hx (y := (⟨"com/example/cosine/cosine/index/IntList", "get", "(I)I"⟩ : MethodName)) (z := (⟨"com/example/cosine/cosine/index/IntList", "get", "(I)I"⟩ : MethodName)) hown (mvT hZ (hw _ (List.mem_of_getElem? (i := 52) rfl))) (mvT hZ (hw _ (List.mem_of_getElem? (i := 53) rfl))) (notFace_of_selects (args := #[]) (mvT hZ (hw _ (List.mem_of_getElem? (i := 55) rfl)))) (mvT hZ (hw _ (List.mem_of_getElem? (i := 55) rfl))) (mvT hZ (hw _ (List.mem_of_getElem? (i := 54) rfl))) (by decide) (backOf (W := 0) (rm10 l Z a0 hw [] cc52 (0 : Int32) ar55 ka55 za55 [p3, p4, p5, p6] p3 T57.heap n0 (Nat.le_trans (Nat.le_trans (Nat.le_trans (Nat.le_trans (Nat.le_trans (Nat.le_trans (Nat.le_trans (Nat.le_trans Z0 E47.1) K48.1) K49.1) K50.1) K51.1) K52.1) K55.1) K57.1) (IK58) ((by decide)) ((Nat.le_of_ble_eq_true rfl)) (rfl)) hZ (hw _ (List.mem_of_getElem? (i := 56) rfl)) (hw _ (List.mem_of_getElem? (i := 2) rfl)) (by decide) (by decide)) q63a q63c (g := (mkF m 182 #[.val (.int p1), .val (.int p2), .val (.int p3), .val (.int p4), .val (.int p5), .val (.int p6), .val (.int (3 : Int32)), .val (.int (p6 ^^^ (-1 : Int32))), .val (.ref b47), .val (.ref cc52), .val (.int (1 : Int32))] [(.int (0 : Int32)), (.ref cc52)])) rfl (by rw [hml]; rfl) (Steps.refl _) (argsL := [(.int (0 : Int32))]) (rest := []) (lenOf pd_6 rfl) rfl (by show 2 * 0 + _ ≤ _; exact Nat.le_of_eq rfl) (hb hby at_182) (fun _ _ => ⟨rfl, e62, (by decide : 10 + 0 ≤ _), (by decide : 68 + 0 ≤ _)⟩)
    dsimp only [Pt.U, Pt.locs, Pt.cells, Pt.slots] at X63 l63 y63 z63 st63 hQ63
    subst l63 y63 z63
    obtain ⟨rfl, N63q, e63⟩ := hQ63
    have N63 := Fr.app N62 N63q
    replace e63 := e63
    refine Goes.tr (U' := T63.setTop (mkF m 185 #[.val (.int p1), .val (.int p2), .val (.int p3), .val (.int p4), .val (.int p5), .val (.int p6), .val (.int (3 : Int32)), .val (.int (p6 ^^^ (-1 : Int32))), .val (.ref b47), .val (.ref cc52), .val (.int (1 : Int32))] [(.int p3)])) st63 ?_
    refine Goes.st (U' := T63.setTop (mkF m 186 #[.val (.int p1), .val (.int p2), .val (.int p3), .val (.int p4), .val (.int p5), .val (.int p6), .val (.int (3 : Int32)), .val (.int (p6 ^^^ (-1 : Int32))), .val (.ref b47), .val (.ref cc52), .val (.int (1 : Int32))] [(.int p3), (.int p3)])) (fun t k => XS.iloadN X63.here hx rfl (hb hby at_185) rfl k) ?_
    refine Goes.st (U' := T63.setTop (mkF m 189 #[.val (.int p1), .val (.int p2), .val (.int p3), .val (.int p4), .val (.int p5), .val (.int p6), .val (.int (3 : Int32)), .val (.int (p6 ^^^ (-1 : Int32))), .val (.ref b47), .val (.ref cc52), .val (.int (1 : Int32))] [])) (fun t k => XS.icmpNo X63.here hx rfl (hb hby at_186) rfl (teq (rfl : p3 = p3)).2 k) ?_
    refine Goes.st (U' := T63.setTop (mkF m 190 #[.val (.int p1), .val (.int p2), .val (.int p3), .val (.int p4), .val (.int p5), .val (.int p6), .val (.int (3 : Int32)), .val (.int (p6 ^^^ (-1 : Int32))), .val (.ref b47), .val (.ref cc52), .val (.int (1 : Int32))] [(.int (1 : Int32))])) (fun t k => XS.iconst X63.here hx rfl (hb hby at_189) k) ?_
    refine Goes.st (U' := T63.setTop (mkF m 194 #[.val (.int p1), .val (.int p2), .val (.int p3), .val (.int p4), .val (.int p5), .val (.int p6), .val (.int (3 : Int32)), .val (.int (p6 ^^^ (-1 : Int32))), .val (.ref b47), .val (.ref cc52), .val (.int (1 : Int32))] [(.int (1 : Int32))])) (fun t k => XS.goto X63.here hx rfl (pc0 := 190) (pc' := 194) rfl (hb hby at_190) (by decide) (by decide) k) ?_
    refine Goes.st (U' := T63.setTop (mkF m 196 #[.val (.int p1), .val (.int p2), .val (.int p3), .val (.int p4), .val (.int p5), .val (.int p6), .val (.int (3 : Int32)), .val (.int (p6 ^^^ (-1 : Int32))), .val (.ref b47), .val (.ref cc52), .val (.int (1 : Int32))] [])) (fun t k => XS.istore X63.here hx rfl (hb hby at_194) rfl (l' := #[.val (.int p1), .val (.int p2), .val (.int p3), .val (.int p4), .val (.int p5), .val (.int p6), .val (.int (3 : Int32)), .val (.int (p6 ^^^ (-1 : Int32))), .val (.ref b47), .val (.ref cc52), .val (.int (1 : Int32))]) rfl k) ?_
    refine Goes.st (U' := T63.setTop (mkF m 198 #[.val (.int p1), .val (.int p2), .val (.int p3), .val (.int p4), .val (.int p5), .val (.int p6), .val (.int (3 : Int32)), .val (.int (p6 ^^^ (-1 : Int32))), .val (.ref b47), .val (.ref cc52), .val (.int (1 : Int32))] [(.int (3 : Int32))])) (fun t k => XS.iload X63.here hx rfl (hb hby at_196) rfl k) ?_
    refine Goes.st (U' := T63.setTop (mkF m 199 #[.val (.int p1), .val (.int p2), .val (.int p3), .val (.int p4), .val (.int p5), .val (.int p6), .val (.int (3 : Int32)), .val (.int (p6 ^^^ (-1 : Int32))), .val (.ref b47), .val (.ref cc52), .val (.int (1 : Int32))] [(.int (1 : Int32)), (.int (3 : Int32))])) (fun t k => XS.iconst X63.here hx rfl (hb hby at_198) k) ?_
    refine Goes.st (U' := T63.setTop (mkF m 202 #[.val (.int p1), .val (.int p2), .val (.int p3), .val (.int p4), .val (.int p5), .val (.int p6), .val (.int (3 : Int32)), .val (.int (p6 ^^^ (-1 : Int32))), .val (.ref b47), .val (.ref cc52), .val (.int (1 : Int32))] [])) (fun t k => XS.icmpNo X63.here hx rfl (hb hby at_199) rfl (tlt (by decide : (1 : Int32) < (3 : Int32))).2.2.2 k) ?_
    refine Goes.st (U' := T63.setTop (mkF m 204 #[.val (.int p1), .val (.int p2), .val (.int p3), .val (.int p4), .val (.int p5), .val (.int p6), .val (.int (3 : Int32)), .val (.int (p6 ^^^ (-1 : Int32))), .val (.ref b47), .val (.ref cc52), .val (.int (1 : Int32))] [(.int (1 : Int32))])) (fun t k => XS.iload X63.here hx rfl (hb hby at_202) rfl k) ?_
    refine Goes.st (U' := T63.setTop (mkF m 207 #[.val (.int p1), .val (.int p2), .val (.int p3), .val (.int p4), .val (.int p5), .val (.int p6), .val (.int (3 : Int32)), .val (.int (p6 ^^^ (-1 : Int32))), .val (.ref b47), .val (.ref cc52), .val (.int (1 : Int32))] [])) (fun t k => XS.ifNo X63.here hx rfl (hb hby at_204) rfl ((if0 _ _).trans (feq (by decide : ¬ ((1 : Int32) = (0 : Int32)))).1) k) ?_
    refine Goes.st (U' := T63.setTop (mkF m 209 #[.val (.int p1), .val (.int p2), .val (.int p3), .val (.int p4), .val (.int p5), .val (.int p6), .val (.int (3 : Int32)), .val (.int (p6 ^^^ (-1 : Int32))), .val (.ref b47), .val (.ref cc52), .val (.int (1 : Int32))] [(.ref cc52)])) (fun t k => XS.aload X63.here hx rfl (hb hby at_207) rfl rfl k) ?_
    refine Goes.st (U' := T63.setTop (mkF m 210 #[.val (.int p1), .val (.int p2), .val (.int p3), .val (.int p4), .val (.int p5), .val (.int p6), .val (.int (3 : Int32)), .val (.int (p6 ^^^ (-1 : Int32))), .val (.ref b47), .val (.ref cc52), .val (.int (1 : Int32))] [(.int (1 : Int32)), (.ref cc52)])) (fun t k => XS.iconst X63.here hx rfl (hb hby at_209) k) ?_
    obtain ⟨cq64, kq64, q64a, q64b, q64c⟩ := isOf hZ e63 (I55.1.keep K57)
    obtain ⟨_, _, ⟨T64, L64, k64, n64⟩, -, X64, ⟨Lc64, hQ64, l64, y64, z64⟩, st64⟩ := X63.virtualBack hx (y := (⟨"com/example/cosine/cosine/index/IntList", "get", "(I)I"⟩ : MethodName)) (z := (⟨"com/example/cosine/cosine/index/IntList", "get", "(I)I"⟩ : MethodName)) hown (mvT hZ (hw _ (List.mem_of_getElem? (i := 52) rfl))) (mvT hZ (hw _ (List.mem_of_getElem? (i := 53) rfl))) (notFace_of_selects (args := #[]) (mvT hZ (hw _ (List.mem_of_getElem? (i := 55) rfl)))) (mvT hZ (hw _ (List.mem_of_getElem? (i := 55) rfl))) (mvT hZ (hw _ (List.mem_of_getElem? (i := 54) rfl))) (by decide) (backOf (W := 0) (rm10 l Z a0 hw [] cc52 (1 : Int32) ar55 ka55 za55 [p3, p4, p5, p6] p4 T57.heap n0 (Nat.le_trans (Nat.le_trans (Nat.le_trans (Nat.le_trans (Nat.le_trans (Nat.le_trans (Nat.le_trans (Nat.le_trans Z0 E47.1) K48.1) K49.1) K50.1) K51.1) K52.1) K55.1) K57.1) (IK58) ((by decide)) ((Nat.le_of_ble_eq_true rfl)) (rfl)) hZ (hw _ (List.mem_of_getElem? (i := 56) rfl)) (hw _ (List.mem_of_getElem? (i := 2) rfl)) (by decide) (by decide)) q64a q64c (g := (mkF m 210 #[.val (.int p1), .val (.int p2), .val (.int p3), .val (.int p4), .val (.int p5), .val (.int p6), .val (.int (3 : Int32)), .val (.int (p6 ^^^ (-1 : Int32))), .val (.ref b47), .val (.ref cc52), .val (.int (1 : Int32))] [(.int (1 : Int32)), (.ref cc52)])) rfl (by rw [hml]; rfl) (Steps.refl _) (argsL := [(.int (1 : Int32))]) (rest := []) (lenOf pd_6 rfl) rfl (by show 2 * 0 + _ ≤ _; exact Nat.le_of_eq rfl) (hb hby at_210) (fun _ _ => ⟨rfl, e63, (by decide : 10 + 0 ≤ _), (by decide : 68 + 0 ≤ _)⟩)
    dsimp only [Pt.U, Pt.locs, Pt.cells, Pt.slots] at X64 l64 y64 z64 st64 hQ64
    subst l64 y64 z64
    obtain ⟨rfl, N64q, e64⟩ := hQ64
    have N64 := Fr.app N63 N64q
    replace e64 := e64
    refine Goes.tr (U' := T64.setTop (mkF m 213 #[.val (.int p1), .val (.int p2), .val (.int p3), .val (.int p4), .val (.int p5), .val (.int p6), .val (.int (3 : Int32)), .val (.int (p6 ^^^ (-1 : Int32))), .val (.ref b47), .val (.ref cc52), .val (.int (1 : Int32))] [(.int p4)])) st64 ?_
    refine Goes.st (U' := T64.setTop (mkF m 214 #[.val (.int p1), .val (.int p2), .val (.int p3), .val (.int p4), .val (.int p5), .val (.int p6), .val (.int (3 : Int32)), .val (.int (p6 ^^^ (-1 : Int32))), .val (.ref b47), .val (.ref cc52), .val (.int (1 : Int32))] [(.int p4), (.int p4)])) (fun t k => XS.iloadN X64.here hx rfl (hb hby at_213) rfl k) ?_
    refine Goes.st (U' := T64.setTop (mkF m 217 #[.val (.int p1), .val (.int p2), .val (.int p3), .val (.int p4), .val (.int p5), .val (.int p6), .val (.int (3 : Int32)), .val (.int (p6 ^^^ (-1 : Int32))), .val (.ref b47), .val (.ref cc52), .val (.int (1 : Int32))] [])) (fun t k => XS.icmpNo X64.here hx rfl (hb hby at_214) rfl (teq (rfl : p4 = p4)).2 k) ?_
    refine Goes.st (U' := T64.setTop (mkF m 218 #[.val (.int p1), .val (.int p2), .val (.int p3), .val (.int p4), .val (.int p5), .val (.int p6), .val (.int (3 : Int32)), .val (.int (p6 ^^^ (-1 : Int32))), .val (.ref b47), .val (.ref cc52), .val (.int (1 : Int32))] [(.int (1 : Int32))])) (fun t k => XS.iconst X64.here hx rfl (hb hby at_217) k) ?_
    refine Goes.st (U' := T64.setTop (mkF m 222 #[.val (.int p1), .val (.int p2), .val (.int p3), .val (.int p4), .val (.int p5), .val (.int p6), .val (.int (3 : Int32)), .val (.int (p6 ^^^ (-1 : Int32))), .val (.ref b47), .val (.ref cc52), .val (.int (1 : Int32))] [(.int (1 : Int32))])) (fun t k => XS.goto X64.here hx rfl (pc0 := 218) (pc' := 222) rfl (hb hby at_218) (by decide) (by decide) k) ?_
    refine Goes.st (U' := T64.setTop (mkF m 224 #[.val (.int p1), .val (.int p2), .val (.int p3), .val (.int p4), .val (.int p5), .val (.int p6), .val (.int (3 : Int32)), .val (.int (p6 ^^^ (-1 : Int32))), .val (.ref b47), .val (.ref cc52), .val (.int (1 : Int32))] [])) (fun t k => XS.istore X64.here hx rfl (hb hby at_222) rfl (l' := #[.val (.int p1), .val (.int p2), .val (.int p3), .val (.int p4), .val (.int p5), .val (.int p6), .val (.int (3 : Int32)), .val (.int (p6 ^^^ (-1 : Int32))), .val (.ref b47), .val (.ref cc52), .val (.int (1 : Int32))]) rfl k) ?_
    refine Goes.st (U' := T64.setTop (mkF m 226 #[.val (.int p1), .val (.int p2), .val (.int p3), .val (.int p4), .val (.int p5), .val (.int p6), .val (.int (3 : Int32)), .val (.int (p6 ^^^ (-1 : Int32))), .val (.ref b47), .val (.ref cc52), .val (.int (1 : Int32))] [(.int (3 : Int32))])) (fun t k => XS.iload X64.here hx rfl (hb hby at_224) rfl k) ?_
    refine Goes.st (U' := T64.setTop (mkF m 227 #[.val (.int p1), .val (.int p2), .val (.int p3), .val (.int p4), .val (.int p5), .val (.int p6), .val (.int (3 : Int32)), .val (.int (p6 ^^^ (-1 : Int32))), .val (.ref b47), .val (.ref cc52), .val (.int (1 : Int32))] [(.int (2 : Int32)), (.int (3 : Int32))])) (fun t k => XS.iconst X64.here hx rfl (hb hby at_226) k) ?_
    refine Goes.st (U' := T64.setTop (mkF m 230 #[.val (.int p1), .val (.int p2), .val (.int p3), .val (.int p4), .val (.int p5), .val (.int p6), .val (.int (3 : Int32)), .val (.int (p6 ^^^ (-1 : Int32))), .val (.ref b47), .val (.ref cc52), .val (.int (1 : Int32))] [])) (fun t k => XS.icmpNo X64.here hx rfl (hb hby at_227) rfl (tlt (by decide : (2 : Int32) < (3 : Int32))).2.2.2 k) ?_
    refine Goes.st (U' := T64.setTop (mkF m 232 #[.val (.int p1), .val (.int p2), .val (.int p3), .val (.int p4), .val (.int p5), .val (.int p6), .val (.int (3 : Int32)), .val (.int (p6 ^^^ (-1 : Int32))), .val (.ref b47), .val (.ref cc52), .val (.int (1 : Int32))] [(.int (1 : Int32))])) (fun t k => XS.iload X64.here hx rfl (hb hby at_230) rfl k) ?_
    refine Goes.st (U' := T64.setTop (mkF m 235 #[.val (.int p1), .val (.int p2), .val (.int p3), .val (.int p4), .val (.int p5), .val (.int p6), .val (.int (3 : Int32)), .val (.int (p6 ^^^ (-1 : Int32))), .val (.ref b47), .val (.ref cc52), .val (.int (1 : Int32))] [])) (fun t k => XS.ifNo X64.here hx rfl (hb hby at_232) rfl ((if0 _ _).trans (feq (by decide : ¬ ((1 : Int32) = (0 : Int32)))).1) k) ?_
    refine Goes.st (U' := T64.setTop (mkF m 237 #[.val (.int p1), .val (.int p2), .val (.int p3), .val (.int p4), .val (.int p5), .val (.int p6), .val (.int (3 : Int32)), .val (.int (p6 ^^^ (-1 : Int32))), .val (.ref b47), .val (.ref cc52), .val (.int (1 : Int32))] [(.ref cc52)])) (fun t k => XS.aload X64.here hx rfl (hb hby at_235) rfl rfl k) ?_
    refine Goes.st (U' := T64.setTop (mkF m 238 #[.val (.int p1), .val (.int p2), .val (.int p3), .val (.int p4), .val (.int p5), .val (.int p6), .val (.int (3 : Int32)), .val (.int (p6 ^^^ (-1 : Int32))), .val (.ref b47), .val (.ref cc52), .val (.int (1 : Int32))] [(.int (2 : Int32)), (.ref cc52)])) (fun t k => XS.iconst X64.here hx rfl (hb hby at_237) k) ?_
    obtain ⟨cq65, kq65, q65a, q65b, q65c⟩ := isOf hZ e64 (I55.1.keep K57)
    obtain ⟨_, _, ⟨T65, L65, k65, n65⟩, -, X65, ⟨Lc65, hQ65, l65, y65, z65⟩, st65⟩ := X64.virtualBack hx (y := (⟨"com/example/cosine/cosine/index/IntList", "get", "(I)I"⟩ : MethodName)) (z := (⟨"com/example/cosine/cosine/index/IntList", "get", "(I)I"⟩ : MethodName)) hown (mvT hZ (hw _ (List.mem_of_getElem? (i := 52) rfl))) (mvT hZ (hw _ (List.mem_of_getElem? (i := 53) rfl))) (notFace_of_selects (args := #[]) (mvT hZ (hw _ (List.mem_of_getElem? (i := 55) rfl)))) (mvT hZ (hw _ (List.mem_of_getElem? (i := 55) rfl))) (mvT hZ (hw _ (List.mem_of_getElem? (i := 54) rfl))) (by decide) (backOf (W := 0) (rm10 l Z a0 hw [] cc52 (2 : Int32) ar55 ka55 za55 [p3, p4, p5, p6] p5 T57.heap n0 (Nat.le_trans (Nat.le_trans (Nat.le_trans (Nat.le_trans (Nat.le_trans (Nat.le_trans (Nat.le_trans (Nat.le_trans Z0 E47.1) K48.1) K49.1) K50.1) K51.1) K52.1) K55.1) K57.1) (IK58) ((by decide)) ((Nat.le_of_ble_eq_true rfl)) (rfl)) hZ (hw _ (List.mem_of_getElem? (i := 56) rfl)) (hw _ (List.mem_of_getElem? (i := 2) rfl)) (by decide) (by decide)) q65a q65c (g := (mkF m 238 #[.val (.int p1), .val (.int p2), .val (.int p3), .val (.int p4), .val (.int p5), .val (.int p6), .val (.int (3 : Int32)), .val (.int (p6 ^^^ (-1 : Int32))), .val (.ref b47), .val (.ref cc52), .val (.int (1 : Int32))] [(.int (2 : Int32)), (.ref cc52)])) rfl (by rw [hml]; rfl) (Steps.refl _) (argsL := [(.int (2 : Int32))]) (rest := []) (lenOf pd_6 rfl) rfl (by show 2 * 0 + _ ≤ _; exact Nat.le_of_eq rfl) (hb hby at_238) (fun _ _ => ⟨rfl, e64, (by decide : 10 + 0 ≤ _), (by decide : 68 + 0 ≤ _)⟩)
    dsimp only [Pt.U, Pt.locs, Pt.cells, Pt.slots] at X65 l65 y65 z65 st65 hQ65
    subst l65 y65 z65
    obtain ⟨rfl, N65q, e65⟩ := hQ65
    have N65 := Fr.app N64 N65q
    replace e65 := e65
    refine Goes.tr (U' := T65.setTop (mkF m 241 #[.val (.int p1), .val (.int p2), .val (.int p3), .val (.int p4), .val (.int p5), .val (.int p6), .val (.int (3 : Int32)), .val (.int (p6 ^^^ (-1 : Int32))), .val (.ref b47), .val (.ref cc52), .val (.int (1 : Int32))] [(.int p5)])) st65 ?_
    refine Goes.st (U' := T65.setTop (mkF m 243 #[.val (.int p1), .val (.int p2), .val (.int p3), .val (.int p4), .val (.int p5), .val (.int p6), .val (.int (3 : Int32)), .val (.int (p6 ^^^ (-1 : Int32))), .val (.ref b47), .val (.ref cc52), .val (.int (1 : Int32))] [(.int p5), (.int p5)])) (fun t k => XS.iload X65.here hx rfl (hb hby at_241) rfl k) ?_
    refine Goes.st (U' := T65.setTop (mkF m 246 #[.val (.int p1), .val (.int p2), .val (.int p3), .val (.int p4), .val (.int p5), .val (.int p6), .val (.int (3 : Int32)), .val (.int (p6 ^^^ (-1 : Int32))), .val (.ref b47), .val (.ref cc52), .val (.int (1 : Int32))] [])) (fun t k => XS.icmpNo X65.here hx rfl (hb hby at_243) rfl (teq (rfl : p5 = p5)).2 k) ?_
    refine Goes.st (U' := T65.setTop (mkF m 247 #[.val (.int p1), .val (.int p2), .val (.int p3), .val (.int p4), .val (.int p5), .val (.int p6), .val (.int (3 : Int32)), .val (.int (p6 ^^^ (-1 : Int32))), .val (.ref b47), .val (.ref cc52), .val (.int (1 : Int32))] [(.int (1 : Int32))])) (fun t k => XS.iconst X65.here hx rfl (hb hby at_246) k) ?_
    refine Goes.st (U' := T65.setTop (mkF m 251 #[.val (.int p1), .val (.int p2), .val (.int p3), .val (.int p4), .val (.int p5), .val (.int p6), .val (.int (3 : Int32)), .val (.int (p6 ^^^ (-1 : Int32))), .val (.ref b47), .val (.ref cc52), .val (.int (1 : Int32))] [(.int (1 : Int32))])) (fun t k => XS.goto X65.here hx rfl (pc0 := 247) (pc' := 251) rfl (hb hby at_247) (by decide) (by decide) k) ?_
    refine Goes.st (U' := T65.setTop (mkF m 253 #[.val (.int p1), .val (.int p2), .val (.int p3), .val (.int p4), .val (.int p5), .val (.int p6), .val (.int (3 : Int32)), .val (.int (p6 ^^^ (-1 : Int32))), .val (.ref b47), .val (.ref cc52), .val (.int (1 : Int32))] [])) (fun t k => XS.istore X65.here hx rfl (hb hby at_251) rfl (l' := #[.val (.int p1), .val (.int p2), .val (.int p3), .val (.int p4), .val (.int p5), .val (.int p6), .val (.int (3 : Int32)), .val (.int (p6 ^^^ (-1 : Int32))), .val (.ref b47), .val (.ref cc52), .val (.int (1 : Int32))]) rfl k) ?_
    refine Goes.st (U' := T65.setTop (mkF m 255 #[.val (.int p1), .val (.int p2), .val (.int p3), .val (.int p4), .val (.int p5), .val (.int p6), .val (.int (3 : Int32)), .val (.int (p6 ^^^ (-1 : Int32))), .val (.ref b47), .val (.ref cc52), .val (.int (1 : Int32))] [(.int (1 : Int32))])) (fun t k => XS.iload X65.here hx rfl (hb hby at_253) rfl k) ?_
    refine Goes.retZ X65 hx (BodyLoose.notSynchronized Bd) Bd.returns (hb hby at_255) rfl (by decide) (by decide) ?_
    show Q0 Z p1 p2 p3 p4 p5 p6 h0 n0 _ T65.heap _
    rw [e65]
    exact ⟨rfl, N65⟩
set_option maxRecDepth 65536 in
set_option maxHeartbeats 40000000 in
theorem comes_1 {Post : Tables → Env → Array Value → State → Outcome → State → Prop} (hpost : ∀ tb e args s v u, (limb_1_1.after args s (.returned v) u = true ∧ limb_1_2.after args s (.returned v) u = true ∧ True) → FrameEnd s (.returned v) u (Jvm.fieldLocs frame_1_writes args s ++ Jvm.arrayLocs frame_1_arrays args s ++ Jvm.staticLocs frame_1_statics s) 24 128 → Post tb e args s (.returned v) u) :
    ArmFor flags0 classFile x code maxLocals ret World_1 tables_1 room_1 Calls_1 rest_1 Pre_1 Post := by
  intro l hfl _ _ p e ha hc hk s m args below hf hA hF happ hP
  obtain ⟨hcalls, hrest, hpre⟩ := hP
  obtain ⟨-, -, -, hnamed, -, -, -, hat⟩ := (Spec.applies_iff hf).mp happ
  obtain ⟨hg, hn⟩ := and_e (Cond.before_iff.mp (show (Jvm.Cond.and given_1 narrow_1).before args s = true from hpre))
  obtain ⟨gg1, gg2⟩ := and_e hg
  obtain ⟨gg3, gg4⟩ := and_e gg2
  obtain ⟨gg5, gg6⟩ := and_e gg4
  obtain ⟨gg7, gg8⟩ := and_e gg6
  obtain ⟨gg9, gg10⟩ := and_e gg8
  obtain ⟨gg11, gg12⟩ := and_e gg10
  obtain ⟨w0, w1, w2, w3, w4, w5, rfl⟩ : ∃ w0 w1 w2 w3 w4 w5 : Value, args = #[w0, w1, w2, w3, w4, w5] := by
    have hs : args.size = 6 := by simpa [Cond.value, given_1] using gg1
    obtain ⟨L⟩ := args
    match L, hs with
    | [w0, w1, w2, w3, w4, w5], _ => exact ⟨w0, w1, w2, w3, w4, w5, rfl⟩
  have hw := fun d (hd : d ∈ tables_1) => atoms_spec (ws := Jvm.Cond.code x code maxLocals ret :: tables_1) hat d (List.mem_cons_of_mem _ hd)
  obtain ⟨i0, ei0⟩ := is_v gg3
  obtain rfl : w0 = (.int i0) := Option.some.inj ei0
  obtain ⟨i1, ei1⟩ := is_v gg5
  obtain rfl : w1 = (.int i1) := Option.some.inj ei1
  obtain ⟨i2, ei2⟩ := is_v gg7
  obtain rfl : w2 = (.int i2) := Option.some.inj ei2
  obtain ⟨i3, ei3⟩ := is_v gg9
  obtain rfl : w3 = (.int i3) := Option.some.inj ei3
  obtain ⟨i4, ei4⟩ := is_v gg11
  obtain rfl : w4 = (.int i4) := Option.some.inj ei4
  obtain ⟨i5, ei5⟩ := is_v gg12
  obtain rfl : w5 = (.int i5) := Option.some.inj ei5
  obtain ⟨n, o, h1, h2, h3, v, L, rfl, hQ, hq⟩ := rm0 l s _ hw tables_1 i0 i1 i2 i3 i4 i5 s.heap s.heap.size (Nat.le_refl _) p e ha hc hk s m _ below hf ((Spec.applies_iff_loose hf).mp happ).1 ⟨rfl, State.Warmed39.refl s, rfl⟩ trivial
  obtain ⟨rfl, N⟩ := hQ
  exact ⟨n, _, h1, h2, h3, hpost _ _ _ _ _ _ ⟨Cond.after_iff.mpr rfl, Cond.after_iff.mpr (eq_i res_at (Term.int_eval (1)) rfl), trivial⟩ ⟨hq.1, hq.2.1, (hq.2.2.sift fun y hy => Or.inr (N y hy)).mono (by decide) (by decide)⟩⟩
theorem main_1_1 : Claimed_1_1 := comes_1 fun _ _ _ _ _ _ h hF => ⟨h.1, hF⟩
theorem main_1_2 : Claimed_1_2 := comes_1 fun _ _ _ _ _ _ h hF => ⟨h.2.1, hF⟩
end Jvm.Pilot.@@N@@
namespace Jvm.Pilot.@@N@@
open Jvm Jvm.ClassFile Sem Op Lib Jvm.Free Jvm.Stand Jvm.Pilot.@@N@@.Jvm.D
/-! MADE BY PROGRAM (witnessworld.py) out of the Statement's table words and the real class files: 12 classes; the members and pool entries that the words name. The judged class is class 1, her method 1. -/
namespace start1
open Jvm.ClassFile
def u (s : String) : CpInfo := .utf8 (stringToUtf16 s)
/-- a pool by its gaps: so many unusable entries, then the entry; so many at the end -/
def gap : Nat → List CpInfo → List CpInfo
  | 0, r => r
  | n + 1, r => .unusable :: gap n r
def poolList (es : List (Nat × CpInfo)) (last : Nat) : List CpInfo := es.foldr (fun e r => gap e.1 (e.2 :: r)) (gap last [])
def pool (es : List (Nat × CpInfo)) (last : Nat) : Array CpInfo := ⟨poolList es last⟩
def fileOf (pool : Array CpInfo) (this : Nat) (attrs : Array Attribute := #[]) (ms : Array MethodInfo := #[]) (fl : Nat := 33) (sup : Nat := 0) (ifs : Array Nat := #[]) (fds : Array FieldInfo := #[]) : ClassFile where
  minorVersion := 0
  majorVersion := 65
  constantPool := pool
  accessFlags := fl
  thisClass := this
  superClass := sup
  interfaces := ifs
  fields := fds
  methods := ms
  attributes := attrs
def plain (name : String) (sup : Option ClassId) : Class where
  name := name
  kind := .ordinary
  loader := none
  accessFlags := 33
  super := sup
  interfaces := #[]
  cf := none
  fields := #[]
  methods := #[]
  instanceTypes := #[]
  staticTypes := #[]
  resolved := #[]
  callSites := []
  init := .initialized
  statics := none
  mirror := none

def pool0 : Array CpInfo := pool [(5, u "<init>"), (0, u "()V"), (1, .class_ 10), (1, u "java/lang/Object"), (85, u "clone"), (0, u "()Ljava/lang/Object;")] 26

def k0c0 : Code := { maxStack := 0, maxLocals := 1, code := object_method_1_code, exceptionTable := #[], attributes := #[] }
def k0m0 : Method := { name := "<init>", desc := "()V", sig := { parameters := [], returnType := none }, accessFlags := 1, code := some k0c0 }
def k0m1 : Method := { name := "clone", desc := "()Ljava/lang/Object;", sig := { parameters := [], returnType := some (.object "java/lang/Object") }, accessFlags := 260, code := none }
/-- java/lang/Object -/
def k0 : Class := { plain "java/lang/Object" none with
  accessFlags := 33
  interfaces := #[]
  cf := some (fileOf pool0 8 #[] #[{ accessFlags := 1, nameIndex := 5, descriptorIndex := 6, attributes := #[] }, { accessFlags := 260, nameIndex := 96, descriptorIndex := 97, attributes := #[] }] 33 0 #[] #[])
  fields := #[]
  methods := #[k0m0, k0m1]
  instanceTypes := #[]
  staticTypes := #[]
  resolved := Array.replicate 124 none
  statics := none }

def pool1 : Array CpInfo := pool [(2, .class_ 4), (1, u "java/lang/Object"), (0, u "<init>"), (0, u "()V"), (0, .class_ 8), (0, u "com/example/cosine/cosine/index/IntList"), (0, .methodref 7 10), (0, .nameAndType 5 11), (0, u "(I)V"), (0, .methodref 7 13), (0, .nameAndType 14 11), (0, u "add"), (0, .methodref 7 16), (0, .nameAndType 17 18), (0, u "copy"), (0, u "()Lcom/example/cosine/cosine/index/IntList;"), (0, .methodref 7 20), (0, .nameAndType 21 22), (0, u "size"), (0, u "()I"), (0, .methodref 7 24), (0, .nameAndType 25 26), (0, u "get"), (0, u "(I)I"), (0, .class_ 28), (0, u "com/example/cosine/cosine/index/IntListCopyPinLaw"), (2, u "law"), (0, u "(IIIIII)Z")] 3

def k1m0 : Method := { name := "<init>", desc := "()V", sig := { parameters := [], returnType := none }, accessFlags := 2, code := none }
def k1c1 : Code := { maxStack := 4, maxLocals := 11, code := code, exceptionTable := #[], attributes := #[] }
def k1m1 : Method := { name := "law", desc := "(IIIIII)Z", sig := { parameters := [.int, .int, .int, .int, .int, .int], returnType := some .boolean }, accessFlags := 9, code := some k1c1 }
/-- com/example/cosine/cosine/index/IntListCopyPinLaw -/
def k1 : Class := { plain "com/example/cosine/cosine/index/IntListCopyPinLaw" (some 0) with
  accessFlags := 49
  interfaces := #[]
  cf := some (fileOf pool1 27 #[] #[{ accessFlags := 2, nameIndex := 5, descriptorIndex := 6, attributes := #[] }, { accessFlags := 9, nameIndex := 31, descriptorIndex := 32, attributes := #[] }] 49 2 #[] #[])
  fields := #[]
  methods := #[k1m0, k1m1]
  instanceTypes := #[]
  staticTypes := #[]
  resolved := Array.replicate 36 none
  statics := none }

def pool2 : Array CpInfo := pool [(3, .methodref 4 5), (0, .class_ 6), (0, .nameAndType 7 8), (0, u "java/lang/Object"), (0, u "<init>"), (0, u "()V"), (0, .fieldref 10 11), (0, .class_ 12), (0, .nameAndType 13 14), (0, u "com/example/cosine/cosine/index/IntList"), (0, u "values"), (0, u "[I"), (0, .fieldref 10 16), (0, .nameAndType 17 18), (0, u "size"), (0, u "I"), (0, .long 4), (1, .long 2), (1, .methodref 24 25), (0, .class_ 26), (0, .nameAndType 27 28), (0, u "java/lang/Math"), (0, u "max"), (0, u "(JJ)J"), (0, .long 2147483639), (1, .methodref 24 32), (0, .nameAndType 33 28), (0, u "min"), (0, .methodref 35 36), (0, .class_ 37), (0, .nameAndType 38 39), (0, u "java/util/Arrays"), (0, u "copyOf"), (0, u "([II)[I"), (0, .methodref 10 41), (0, .nameAndType 7 42), (0, u "(I)V"), (0, u "MAX_CAPACITY"), (4, u "add"), (1, u "copy"), (0, u "()Lcom/example/cosine/cosine/index/IntList;"), (0, u "get"), (0, u "(I)I"), (0, u "()I")] 2

def k2c0 : Code := { maxStack := 2, maxLocals := 2, code := prog_18_method_1_code, exceptionTable := #[], attributes := #[] }
def k2m0 : Method := { name := "<init>", desc := "(I)V", sig := { parameters := [.int], returnType := none }, accessFlags := 0, code := some k2c0 }
def k2c1 : Code := { maxStack := 6, maxLocals := 4, code := prog_18_method_2_code, exceptionTable := #[], attributes := #[] }
def k2m1 : Method := { name := "add", desc := "(I)V", sig := { parameters := [.int], returnType := none }, accessFlags := 0, code := some k2c1 }
def k2c2 : Code := { maxStack := 3, maxLocals := 2, code := prog_18_method_3_code, exceptionTable := #[], attributes := #[] }
def k2m2 : Method := { name := "copy", desc := "()Lcom/example/cosine/cosine/index/IntList;", sig := { parameters := [], returnType := some (.object "com/example/cosine/cosine/index/IntList") }, accessFlags := 0, code := some k2c2 }
def k2c3 : Code := { maxStack := 2, maxLocals := 2, code := prog_18_method_4_code, exceptionTable := #[], attributes := #[] }
def k2m3 : Method := { name := "get", desc := "(I)I", sig := { parameters := [.int], returnType := some .int }, accessFlags := 0, code := some k2c3 }
def k2c4 : Code := { maxStack := 1, maxLocals := 1, code := prog_18_method_5_code, exceptionTable := #[], attributes := #[] }
def k2m4 : Method := { name := "size", desc := "()I", sig := { parameters := [], returnType := some .int }, accessFlags := 0, code := some k2c4 }
/-- com/example/cosine/cosine/index/IntList -/
def k2 : Class := { plain "com/example/cosine/cosine/index/IntList" (some 0) with
  accessFlags := 48
  interfaces := #[]
  cf := some (fileOf pool2 10 #[] #[{ accessFlags := 0, nameIndex := 7, descriptorIndex := 42, attributes := #[] }, { accessFlags := 0, nameIndex := 48, descriptorIndex := 42, attributes := #[] }, { accessFlags := 0, nameIndex := 50, descriptorIndex := 51, attributes := #[] }, { accessFlags := 0, nameIndex := 52, descriptorIndex := 53, attributes := #[] }, { accessFlags := 0, nameIndex := 17, descriptorIndex := 54, attributes := #[] }] 48 4 #[] #[{ accessFlags := 26, nameIndex := 43, descriptorIndex := 18, attributes := #[] }, { accessFlags := 2, nameIndex := 13, descriptorIndex := 14, attributes := #[] }, { accessFlags := 2, nameIndex := 17, descriptorIndex := 18, attributes := #[] }])
  fields := #[{ name := "MAX_CAPACITY", type := .int, accessFlags := 26, slot := 0, constantValue := 0 }, { name := "values", type := (.array .int), accessFlags := 2, slot := 0, constantValue := 0 }, { name := "size", type := .int, accessFlags := 2, slot := 1, constantValue := 0 }]
  methods := #[k2m0, k2m1, k2m2, k2m3, k2m4]
  instanceTypes := #[(.array .int), .int]
  staticTypes := #[.int]
  resolved := Array.replicate 57 none
  statics := none }

def pool3 : Array CpInfo := pool [(1, .class_ 2), (0, u "java/lang/Math"), (1, .class_ 6), (1, u "java/lang/Object"), (0, u "<init>"), (0, u "()V"), (89, .class_ 100), (1, u "java/lang/Math$RandomNumberGeneratorHolder"), (20, u "(JJ)J"), (50, u "negativeZeroFloatBits"), (0, u "J"), (2, u "negativeZeroDoubleBits"), (21, u "max"), (2, u "min"), (43, u "$assertionsDisabled"), (0, u "Z"), (88, u "(II)I"), (2, u "twoToTheDoubleScaleDown"), (0, u "D"), (4, u "twoToTheDoubleScaleUp"), (9, u "E"), (3, u "PI"), (2, u "TAU"), (2, u "DEGREES_TO_RADIANS"), (0, u "RADIANS_TO_DEGREES")] 94

def k3m0 : Method := { name := "<init>", desc := "()V", sig := { parameters := [], returnType := none }, accessFlags := 2, code := none }
def k3c1 : Code := { maxStack := 4, maxLocals := 4, code := jdk_29_method_66_code, exceptionTable := #[], attributes := #[] }
def k3m1 : Method := { name := "max", desc := "(JJ)J", sig := { parameters := [.long, .long], returnType := some .long }, accessFlags := 9, code := some k3c1 }
def k3c2 : Code := { maxStack := 2, maxLocals := 2, code := jdk_29_method_69_code, exceptionTable := #[], attributes := #[] }
def k3m2 : Method := { name := "min", desc := "(II)I", sig := { parameters := [.int, .int], returnType := some .int }, accessFlags := 9, code := some k3c2 }
def k3c3 : Code := { maxStack := 4, maxLocals := 4, code := jdk_29_method_70_code, exceptionTable := #[], attributes := #[] }
def k3m3 : Method := { name := "min", desc := "(JJ)J", sig := { parameters := [.long, .long], returnType := some .long }, accessFlags := 9, code := some k3c3 }
/-- java/lang/Math -/
def k3 : Class := { plain "java/lang/Math" (some 0) with
  accessFlags := 49
  interfaces := #[]
  cf := some (fileOf pool3 1 #[.nestMembers #[98]] #[{ accessFlags := 2, nameIndex := 7, descriptorIndex := 8, attributes := #[] }, { accessFlags := 9, nameIndex := 198, descriptorIndex := 121, attributes := #[] }, { accessFlags := 9, nameIndex := 201, descriptorIndex := 335, attributes := #[] }, { accessFlags := 9, nameIndex := 201, descriptorIndex := 121, attributes := #[] }] 49 4 #[] #[{ accessFlags := 25, nameIndex := 354, descriptorIndex := 339, attributes := #[] }, { accessFlags := 25, nameIndex := 358, descriptorIndex := 339, attributes := #[] }, { accessFlags := 25, nameIndex := 361, descriptorIndex := 339, attributes := #[] }, { accessFlags := 26, nameIndex := 364, descriptorIndex := 339, attributes := #[] }, { accessFlags := 26, nameIndex := 365, descriptorIndex := 339, attributes := #[] }, { accessFlags := 26, nameIndex := 172, descriptorIndex := 173, attributes := #[] }, { accessFlags := 26, nameIndex := 176, descriptorIndex := 173, attributes := #[] }, { accessFlags := 8, nameIndex := 344, descriptorIndex := 339, attributes := #[] }, { accessFlags := 8, nameIndex := 338, descriptorIndex := 339, attributes := #[] }, { accessFlags := 4120, nameIndex := 245, descriptorIndex := 246, attributes := #[] }])
  fields := #[{ name := "E", type := .double, accessFlags := 25, slot := 0, constantValue := 0 }, { name := "PI", type := .double, accessFlags := 25, slot := 1, constantValue := 0 }, { name := "TAU", type := .double, accessFlags := 25, slot := 2, constantValue := 0 }, { name := "DEGREES_TO_RADIANS", type := .double, accessFlags := 26, slot := 3, constantValue := 0 }, { name := "RADIANS_TO_DEGREES", type := .double, accessFlags := 26, slot := 4, constantValue := 0 }, { name := "negativeZeroFloatBits", type := .long, accessFlags := 26, slot := 5, constantValue := 0 }, { name := "negativeZeroDoubleBits", type := .long, accessFlags := 26, slot := 6, constantValue := 0 }, { name := "twoToTheDoubleScaleUp", type := .double, accessFlags := 8, slot := 7, constantValue := 0 }, { name := "twoToTheDoubleScaleDown", type := .double, accessFlags := 8, slot := 8, constantValue := 0 }, { name := "$assertionsDisabled", type := .boolean, accessFlags := 4120, slot := 9, constantValue := 0 }]
  methods := #[k3m0, k3m1, k3m2, k3m3]
  instanceTypes := #[]
  staticTypes := #[.double, .double, .double, .double, .double, .long, .long, .double, .double, .boolean]
  resolved := Array.replicate 460 none
  statics := none }

def pool4 : Array CpInfo := pool [(2, .class_ 4), (1, u "java/lang/Object"), (0, u "<init>"), (0, u "()V"), (7, .class_ 16), (1, u "java/util/Arrays"), (57, .class_ 76), (1, u "java/util/Arrays$NaturalOrder"), (32, u "()Ljava/lang/Object;"), (3, .class_ 115), (1, u "java/util/Arrays$LegacyMergeSort"), (1, u "Z"), (10, .nameAndType 129 109), (0, u "clone"), (20, .methodref 151 152), (0, .class_ 153), (0, .nameAndType 154 155), (0, u "java/lang/System"), (0, u "arraycopy"), (0, u "(Ljava/lang/Object;ILjava/lang/Object;II)V"), (146, u "copyOf"), (1, .methodref 305 306), (0, .class_ 307), (0, .nameAndType 308 309), (0, u "java/lang/Math"), (0, u "min"), (0, u "(II)I"), (6, .methodref 317 128), (0, .class_ 318), (0, u "[I"), (56, .class_ 376), (0, u "java/util/Arrays$ArrayList"), (68, u "$assertionsDisabled"), (269, u "MIN_ARRAY_SORT_GRAN"), (0, u "I"), (2, u "INSERTIONSORT_THRESHOLD"), (151, u "([II)[I"), (103, .class_ 976), (0, u "java/util/Arrays$ArrayItr")] 52

def k4m0 : Method := { name := "<init>", desc := "()V", sig := { parameters := [], returnType := none }, accessFlags := 2, code := none }
def k4c1 : Code := { maxStack := 6, maxLocals := 3, code := jdk_65_method_123_code, exceptionTable := #[], attributes := #[] }
def k4m1 : Method := { name := "copyOf", desc := "([II)[I", sig := { parameters := [(.array .int), .int], returnType := some (.array .int) }, accessFlags := 9, code := some k4c1 }
/-- java/util/Arrays -/
def k4 : Class := { plain "java/util/Arrays" (some 0) with
  accessFlags := 49
  interfaces := #[]
  cf := some (fileOf pool4 14 #[.nestMembers #[975, 375, 113, 74]] #[{ accessFlags := 2, nameIndex := 5, descriptorIndex := 6, attributes := #[] }, { accessFlags := 9, nameIndex := 302, descriptorIndex := 871, attributes := #[] }] 49 2 #[] #[{ accessFlags := 26, nameIndex := 715, descriptorIndex := 716, attributes := #[] }, { accessFlags := 26, nameIndex := 719, descriptorIndex := 716, attributes := #[] }, { accessFlags := 4120, nameIndex := 445, descriptorIndex := 117, attributes := #[] }])
  fields := #[{ name := "MIN_ARRAY_SORT_GRAN", type := .int, accessFlags := 26, slot := 0, constantValue := 0 }, { name := "INSERTIONSORT_THRESHOLD", type := .int, accessFlags := 26, slot := 1, constantValue := 0 }, { name := "$assertionsDisabled", type := .boolean, accessFlags := 4120, slot := 2, constantValue := 0 }]
  methods := #[k4m0, k4m1]
  instanceTypes := #[]
  staticTypes := #[.int, .int, .boolean]
  resolved := Array.replicate 1029 none
  statics := none }

def pool5 : Array CpInfo := pool [(2, .class_ 4), (1, u "java/lang/Object"), (0, u "<init>"), (0, u "()V"), (1, .class_ 10), (1, u "java/lang/System"), (0, u "allowSecurityManager"), (0, u "I"), (16, u "cons"), (0, u "Ljava/io/Console;"), (77, .class_ 110), (1, u "java/lang/System$CallersHolder"), (43, u "initialErrStream"), (0, u "Ljava/io/PrintStream;"), (19, u "security"), (0, u "Ljava/lang/SecurityManager;"), (31, .class_ 209), (0, u "java/lang/System$1"), (7, u "props"), (0, u "Ljava/util/Properties;"), (2, u "lineSeparator"), (0, u "Ljava/lang/String;"), (96, .class_ 321), (1, u "java/lang/System$LoggerFinder"), (5, .class_ 328), (0, u "java/lang/System$Logger"), (67, u "err"), (2, u "out"), (91, u "notSupportedJnuEncoding"), (15, u "in"), (17, u "initialIn"), (0, u "Ljava/io/InputStream;"), (35, u "bootLayer"), (0, u "Ljava/lang/ModuleLayer;"), (99, .class_ 664), (0, u "java/lang/System$2"), (9, u "NEVER"), (2, u "MAYBE"), (49, u "arraycopy"), (0, u "(Ljava/lang/Object;ILjava/lang/Object;II)V"), (72, .class_ 802), (0, u "java/lang/System$Logger$Level")] 31

def k5m0 : Method := { name := "<init>", desc := "()V", sig := { parameters := [], returnType := none }, accessFlags := 2, code := none }
def k5m1 : Method := { name := "arraycopy", desc := "(Ljava/lang/Object;ILjava/lang/Object;II)V", sig := { parameters := [(.object "java/lang/Object"), .int, (.object "java/lang/Object"), .int, .int], returnType := none }, accessFlags := 265, code := none }
/-- java/lang/System -/
def k5 : Class := { plain "java/lang/System" (some 0) with
  accessFlags := 49
  interfaces := #[]
  cf := some (fileOf pool5 8 #[.nestMembers #[319, 327, 801, 108, 663, 208]] #[{ accessFlags := 2, nameIndex := 5, descriptorIndex := 6, attributes := #[] }, { accessFlags := 265, nameIndex := 727, descriptorIndex := 728, attributes := #[] }] 49 2 #[] #[{ accessFlags := 25, nameIndex := 507, descriptorIndex := 526, attributes := #[] }, { accessFlags := 25, nameIndex := 399, descriptorIndex := 155, attributes := #[] }, { accessFlags := 25, nameIndex := 396, descriptorIndex := 155, attributes := #[] }, { accessFlags := 10, nameIndex := 525, descriptorIndex := 526, attributes := #[] }, { accessFlags := 26, nameIndex := 674, descriptorIndex := 12, attributes := #[] }, { accessFlags := 26, nameIndex := 677, descriptorIndex := 12, attributes := #[] }, { accessFlags := 10, nameIndex := 11, descriptorIndex := 12, attributes := #[] }, { accessFlags := 74, nameIndex := 175, descriptorIndex := 176, attributes := #[] }, { accessFlags := 10, nameIndex := 491, descriptorIndex := 222, attributes := #[] }, { accessFlags := 74, nameIndex := 29, descriptorIndex := 30, attributes := #[] }, { accessFlags := 74, nameIndex := 154, descriptorIndex := 155, attributes := #[] }, { accessFlags := 10, nameIndex := 217, descriptorIndex := 218, attributes := #[] }, { accessFlags := 10, nameIndex := 221, descriptorIndex := 222, attributes := #[] }, { accessFlags := 8, nameIndex := 562, descriptorIndex := 563, attributes := #[] }])
  fields := #[{ name := "in", type := (.object "java/io/InputStream"), accessFlags := 25, slot := 0, constantValue := 0 }, { name := "out", type := (.object "java/io/PrintStream"), accessFlags := 25, slot := 1, constantValue := 0 }, { name := "err", type := (.object "java/io/PrintStream"), accessFlags := 25, slot := 2, constantValue := 0 }, { name := "initialIn", type := (.object "java/io/InputStream"), accessFlags := 10, slot := 3, constantValue := 0 }, { name := "NEVER", type := .int, accessFlags := 26, slot := 4, constantValue := 0 }, { name := "MAYBE", type := .int, accessFlags := 26, slot := 5, constantValue := 0 }, { name := "allowSecurityManager", type := .int, accessFlags := 10, slot := 6, constantValue := 0 }, { name := "security", type := (.object "java/lang/SecurityManager"), accessFlags := 74, slot := 7, constantValue := 0 }, { name := "notSupportedJnuEncoding", type := (.object "java/lang/String"), accessFlags := 10, slot := 8, constantValue := 0 }, { name := "cons", type := (.object "java/io/Console"), accessFlags := 74, slot := 9, constantValue := 0 }, { name := "initialErrStream", type := (.object "java/io/PrintStream"), accessFlags := 74, slot := 10, constantValue := 0 }, { name := "props", type := (.object "java/util/Properties"), accessFlags := 10, slot := 11, constantValue := 0 }, { name := "lineSeparator", type := (.object "java/lang/String"), accessFlags := 10, slot := 12, constantValue := 0 }, { name := "bootLayer", type := (.object "java/lang/ModuleLayer"), accessFlags := 8, slot := 13, constantValue := 0 }]
  methods := #[k5m0, k5m1]
  instanceTypes := #[]
  staticTypes := #[(.object "java/io/InputStream"), (.object "java/io/PrintStream"), (.object "java/io/PrintStream"), (.object "java/io/InputStream"), .int, .int, .int, (.object "java/lang/SecurityManager"), (.object "java/lang/String"), (.object "java/io/Console"), (.object "java/io/PrintStream"), (.object "java/util/Properties"), (.object "java/lang/String"), (.object "java/lang/ModuleLayer")]
  resolved := Array.replicate 834 none
  statics := none }

def pool6 : Array CpInfo := pool [(1, .class_ 2), (0, u "java/lang/Cloneable"), (0, .class_ 4), (0, u "java/lang/Object")] 2

/-- java/lang/Cloneable -/
def k6 : Class := { plain "java/lang/Cloneable" (some 0) with
  accessFlags := 1537
  interfaces := #[]
  cf := some (fileOf pool6 1 #[] #[] 1537 3 #[] #[])
  fields := #[]
  methods := #[]
  instanceTypes := #[]
  staticTypes := #[]
  resolved := Array.replicate 7 none
  statics := none }

def pool7 : Array CpInfo := pool [(1, u "java/io/Serializable"), (0, .class_ 1), (0, u "java/lang/Object"), (0, .class_ 3)] 3

/-- java/io/Serializable -/
def k7 : Class := { plain "java/io/Serializable" (some 0) with
  accessFlags := 1537
  interfaces := #[]
  cf := some (fileOf pool7 2 #[] #[] 1537 4 #[] #[])
  fields := #[]
  methods := #[]
  instanceTypes := #[]
  staticTypes := #[]
  resolved := Array.replicate 8 none
  statics := none }

/-- the primitive byte -/
def k8 : Class := { plain "byte" none with kind := .primitive 'B', accessFlags := 0x411 }
/-- [B -/
def k9 : Class := { plain "[B" (some 0) with kind := .array 8 .byte, interfaces := #[6, 7], accessFlags := 1041 }

/-- the primitive int -/
def k10 : Class := { plain "int" none with kind := .primitive 'I', accessFlags := 0x411 }
/-- [I -/
def k11 : Class := { plain "[I" (some 0) with kind := .array 10 .int, interfaces := #[6, 7], accessFlags := 1041 }

def heap : Heap := #[]
def classes : Array Class := #[k0, k1, k2, k3, k4, k5, k6, k7, k8, k9, k10, k11]
def interned : List (Array UInt16 × Addr) := []
def slotsUsed : Nat := 0
def theMethod : MethodId := ⟨1, 1⟩
def args0 : Array Value := #[.int 1, .int 2, .int 3, .int 4, .int 5, .int 6]
def aboutOver (below : List Frame) : State where
  vm := { classes := classes, interned := interned.toArray }
  heap := heap
  slotsUsed := slotsUsed
  threads := #[{ frames := .invoking theMethod args0 :: below }]
def below0 : List Frame := [.native { method := ⟨0, 0⟩, args := #[] }]
def about1 : State := aboutOver below0
def p0 : Program := .bare "" "" ""
def e0 : Env := launch0.env 0 0 0
theorem w_frames : about1.frames = Frame.invoking theMethod args0 :: below0 := rfl
set_option maxRecDepth 65536 in
theorem w_args : argsFit about1.vm theMethod args0 = true := by decide +kernel
set_option maxRecDepth 65536 in
theorem w_heap : heapFits about1 = true := by decide +kernel
set_option maxRecDepth 65536 in
theorem w_runnable : about1.curStatus? = some .runnable := by decide +kernel
set_option maxRecDepth 65536 in
theorem w_alone : about1.alone = true := by decide +kernel
set_option maxRecDepth 65536 in
theorem w_named : about1.methodNamed? x = some theMethod := by decide +kernel
set_option maxRecDepth 65536 in
theorem w_hears : about1.hears theMethod below0 = true := by decide +kernel
set_option maxRecDepth 65536 in
theorem w_ripe : about1.ripe theMethod args0 below0 = true := by decide +kernel
theorem w_running : about1.status = .running := rfl
set_option maxRecDepth 65536 in
theorem w_room : about1.hasRoom e0.platform room_1 = true :=
  launch0.hasRoom_least _ room_1 (by decide +kernel) (by decide +kernel) (by decide +kernel) (by decide +kernel) (by decide +kernel) (by decide +kernel)
theorem allAtoms_all (ts : List Jvm.Cond) (a : Array Jvm.Value) (st : Jvm.State) : (allAtoms ts).before a st = ts.all (fun c => c.before a st) := by
  induction ts with
  | nil => rfl
  | cons c t ih =>
    show (Jvm.Cond.and c (allAtoms t)).before a st = _
    rw [Jvm.Cond.before_and, ih, List.all_cons]
def words1 : List Jvm.Cond := Jvm.Cond.code x code maxLocals ret :: tables_1
/-- a 'code' word, met by the world's own term for the bytes: nothing is compared byte by byte -/
theorem code_word {y : MethodName} {bytes : ByteArray} {mx : Nat} {rt : Option FieldType} {a : Array Value} {s : State} {m : MethodId} {meth : Method} {c : Code} (h1 : s.methodNamed? y = some m) (h2 : s.vm.method? m = some meth) (h3 : meth.code = some c) (h4 : c.code = bytes)
    (h5 : (c.maxLocals == mx && c.exceptionTable.isEmpty && decide (c.maxStack ≤ mostOperands) && decide (meth.sig.returnType = rt) && !meth.locks && decide (parseMethodDescriptor y.desc = some meth.sig)) = true) : (Jvm.Cond.code y bytes mx rt).before a s = true := by
  simp only [Bool.and_eq_true, beq_iff_eq, Bool.not_eq_true', decide_eq_true_eq] at h5
  obtain ⟨⟨⟨⟨⟨g1, g2⟩, g3⟩, g4⟩, g5⟩, g6⟩ := h5
  simp [Cond.before, Cond.holds, Cond.value, h1, h2, h3, h4, g1, g2, g3, g4, g5, g6]
def isCode : Jvm.Cond → Bool
  | .code _ _ _ _ => true
  | _ => false
theorem all_split {L : List Jvm.Cond} {P : Jvm.Cond → Bool} (h1 : L.all (fun c => isCode c || P c) = true) (h2 : ∀ c ∈ L.filter isCode, P c = true) : L.all P = true := by
  refine List.all_eq_true.mpr fun c hc => ?_
  have h := List.all_eq_true.mp h1 c hc
  rcases Bool.eq_false_or_eq_true (isCode c) with hi | hi
  · exact h2 c (List.mem_filter.mpr ⟨hc, hi⟩)
  · simpa [hi] using h
set_option maxRecDepth 65536 in
theorem w_c0 : (Jvm.Cond.code x code maxLocals ret).before args0 about1 = true := code_word (m := ⟨1, 1⟩) (meth := k1m1) (c := k1c1) (by decide +kernel) rfl rfl rfl (by decide +kernel)
set_option maxRecDepth 65536 in
theorem w_c1 : (Jvm.Cond.code ({ cls := "com/example/cosine/cosine/index/IntList", name := "<init>", desc := "(I)V" } : Jvm.MethodName) prog_18_method_1_code (2 : Nat) (Option.none : Option Jvm.ClassFile.FieldType)).before args0 about1 = true := code_word (m := ⟨2, 0⟩) (meth := k2m0) (c := k2c0) (by decide +kernel) rfl rfl rfl (by decide +kernel)
set_option maxRecDepth 65536 in
theorem w_c2 : (Jvm.Cond.code ({ cls := "java/lang/Object", name := "<init>", desc := "()V" } : Jvm.MethodName) object_method_1_code (1 : Nat) (Option.none : Option Jvm.ClassFile.FieldType)).before args0 about1 = true := code_word (m := ⟨0, 0⟩) (meth := k0m0) (c := k0c0) (by decide +kernel) rfl rfl rfl (by decide +kernel)
set_option maxRecDepth 65536 in
theorem w_c3 : (Jvm.Cond.code ({ cls := "com/example/cosine/cosine/index/IntList", name := "add", desc := "(I)V" } : Jvm.MethodName) prog_18_method_2_code (4 : Nat) (Option.none : Option Jvm.ClassFile.FieldType)).before args0 about1 = true := code_word (m := ⟨2, 1⟩) (meth := k2m1) (c := k2c1) (by decide +kernel) rfl rfl rfl (by decide +kernel)
set_option maxRecDepth 65536 in
theorem w_c4 : (Jvm.Cond.code ({ cls := "java/lang/Math", name := "max", desc := "(JJ)J" } : Jvm.MethodName) jdk_29_method_66_code (4 : Nat) (Option.some Jvm.ClassFile.FieldType.long)).before args0 about1 = true := code_word (m := ⟨3, 1⟩) (meth := k3m1) (c := k3c1) (by decide +kernel) rfl rfl rfl (by decide +kernel)
set_option maxRecDepth 65536 in
theorem w_c5 : (Jvm.Cond.code ({ cls := "java/lang/Math", name := "min", desc := "(JJ)J" } : Jvm.MethodName) jdk_29_method_70_code (4 : Nat) (Option.some Jvm.ClassFile.FieldType.long)).before args0 about1 = true := code_word (m := ⟨3, 3⟩) (meth := k3m3) (c := k3c3) (by decide +kernel) rfl rfl rfl (by decide +kernel)
set_option maxRecDepth 65536 in
theorem w_c6 : (Jvm.Cond.code ({ cls := "java/util/Arrays", name := "copyOf", desc := "([II)[I" } : Jvm.MethodName) jdk_65_method_123_code (3 : Nat) (Option.some (Jvm.ClassFile.FieldType.array Jvm.ClassFile.FieldType.int))).before args0 about1 = true := code_word (m := ⟨4, 1⟩) (meth := k4m1) (c := k4c1) (by decide +kernel) rfl rfl rfl (by decide +kernel)
set_option maxRecDepth 65536 in
theorem w_c7 : (Jvm.Cond.code ({ cls := "java/lang/Math", name := "min", desc := "(II)I" } : Jvm.MethodName) jdk_29_method_69_code (2 : Nat) (Option.some Jvm.ClassFile.FieldType.int)).before args0 about1 = true := code_word (m := ⟨3, 2⟩) (meth := k3m2) (c := k3c2) (by decide +kernel) rfl rfl rfl (by decide +kernel)
set_option maxRecDepth 65536 in
theorem w_c8 : (Jvm.Cond.code ({ cls := "com/example/cosine/cosine/index/IntList", name := "copy", desc := "()Lcom/example/cosine/cosine/index/IntList;" } : Jvm.MethodName) prog_18_method_3_code (2 : Nat) (Option.some (Jvm.ClassFile.FieldType.object "com/example/cosine/cosine/index/IntList"))).before args0 about1 = true := code_word (m := ⟨2, 2⟩) (meth := k2m2) (c := k2c2) (by decide +kernel) rfl rfl rfl (by decide +kernel)
set_option maxRecDepth 65536 in
theorem w_c9 : (Jvm.Cond.code ({ cls := "com/example/cosine/cosine/index/IntList", name := "size", desc := "()I" } : Jvm.MethodName) prog_18_method_5_code (1 : Nat) (Option.some Jvm.ClassFile.FieldType.int)).before args0 about1 = true := code_word (m := ⟨2, 4⟩) (meth := k2m4) (c := k2c4) (by decide +kernel) rfl rfl rfl (by decide +kernel)
set_option maxRecDepth 65536 in
theorem w_c10 : (Jvm.Cond.code ({ cls := "com/example/cosine/cosine/index/IntList", name := "get", desc := "(I)I" } : Jvm.MethodName) prog_18_method_4_code (2 : Nat) (Option.some Jvm.ClassFile.FieldType.int)).before args0 about1 = true := code_word (m := ⟨2, 3⟩) (meth := k2m3) (c := k2c3) (by decide +kernel) rfl rfl rfl (by decide +kernel)
def codes1 : List Jvm.Cond := [Jvm.Cond.code x code maxLocals ret, Jvm.Cond.code ({ cls := "com/example/cosine/cosine/index/IntList", name := "<init>", desc := "(I)V" } : Jvm.MethodName) prog_18_method_1_code (2 : Nat) (Option.none : Option Jvm.ClassFile.FieldType), Jvm.Cond.code ({ cls := "java/lang/Object", name := "<init>", desc := "()V" } : Jvm.MethodName) object_method_1_code (1 : Nat) (Option.none : Option Jvm.ClassFile.FieldType), Jvm.Cond.code ({ cls := "com/example/cosine/cosine/index/IntList", name := "add", desc := "(I)V" } : Jvm.MethodName) prog_18_method_2_code (4 : Nat) (Option.none : Option Jvm.ClassFile.FieldType), Jvm.Cond.code ({ cls := "java/lang/Math", name := "max", desc := "(JJ)J" } : Jvm.MethodName) jdk_29_method_66_code (4 : Nat) (Option.some Jvm.ClassFile.FieldType.long), Jvm.Cond.code ({ cls := "java/lang/Math", name := "min", desc := "(JJ)J" } : Jvm.MethodName) jdk_29_method_70_code (4 : Nat) (Option.some Jvm.ClassFile.FieldType.long), Jvm.Cond.code ({ cls := "java/util/Arrays", name := "copyOf", desc := "([II)[I" } : Jvm.MethodName) jdk_65_method_123_code (3 : Nat) (Option.some (Jvm.ClassFile.FieldType.array Jvm.ClassFile.FieldType.int)), Jvm.Cond.code ({ cls := "java/lang/Math", name := "min", desc := "(II)I" } : Jvm.MethodName) jdk_29_method_69_code (2 : Nat) (Option.some Jvm.ClassFile.FieldType.int), Jvm.Cond.code ({ cls := "com/example/cosine/cosine/index/IntList", name := "copy", desc := "()Lcom/example/cosine/cosine/index/IntList;" } : Jvm.MethodName) prog_18_method_3_code (2 : Nat) (Option.some (Jvm.ClassFile.FieldType.object "com/example/cosine/cosine/index/IntList")), Jvm.Cond.code ({ cls := "com/example/cosine/cosine/index/IntList", name := "size", desc := "()I" } : Jvm.MethodName) prog_18_method_5_code (1 : Nat) (Option.some Jvm.ClassFile.FieldType.int), Jvm.Cond.code ({ cls := "com/example/cosine/cosine/index/IntList", name := "get", desc := "(I)I" } : Jvm.MethodName) prog_18_method_4_code (2 : Nat) (Option.some Jvm.ClassFile.FieldType.int)]
set_option maxRecDepth 65536 in
theorem codes_eq : words1.filter isCode = codes1 := rfl
theorem w_codes : ∀ c ∈ words1.filter isCode, c.before args0 about1 = true := by
  rw [codes_eq]
  intro c hc
  simp only [codes1, List.mem_cons, List.not_mem_nil, or_false] at hc
  rcases hc with rfl | rfl | rfl | rfl | rfl | rfl | rfl | rfl | rfl | rfl | rfl
  · exact w_c0
  · exact w_c1
  · exact w_c2
  · exact w_c3
  · exact w_c4
  · exact w_c5
  · exact w_c6
  · exact w_c7
  · exact w_c8
  · exact w_c9
  · exact w_c10
set_option maxRecDepth 65536 in
theorem w_t1 : (words1.take 24).all (fun c => isCode c || c.before args0 about1) = true := by decide +kernel
set_option maxRecDepth 65536 in
theorem w_t2 : ((words1.drop 24).take 24).all (fun c => isCode c || c.before args0 about1) = true := by decide +kernel
set_option maxRecDepth 65536 in
theorem w_t3 : ((words1.drop 24).drop 24).all (fun c => isCode c || c.before args0 about1) = true := by decide +kernel
theorem w_tables : (allAtoms (Jvm.Cond.code x code maxLocals ret :: tables_1)).before args0 about1 = true := by
  rw [allAtoms_all]
  show words1.all (fun c => c.before args0 about1) = true
  refine all_split ?_ w_codes
  rw [← List.take_append_drop 24 words1, List.all_append, w_t1, ← List.take_append_drop 24 (words1.drop 24), List.all_append, w_t2, w_t3]
  rfl
set_option maxRecDepth 65536 in
theorem w_case : (Jvm.Cond.and given_1 narrow_1).before args0 about1 = true := by decide +kernel
theorem w_applies : (headSpec (Jvm.Cond.code x code maxLocals ret :: tables_1) room_1).applies x e0.platform about1 = true :=
  (Spec.applies_iff w_frames).mpr ⟨w_running, w_runnable, w_alone, w_named, w_hears, w_ripe, w_room, w_tables⟩
theorem atStart : AtStart classFile x code maxLocals ret World_1 tables_1 room_1 Calls_1 rest_1 Pre_1 launch0 p0 e0 about1 theMethod args0 below0 :=
  ⟨lists_1, trivial, launch0.admits_env _ _ _, launch0.least_env, fairChoices_fair.cas, fairChoices_fair.clock, w_frames, w_args, w_heap, w_applies, trivial, trivial, w_case⟩
end start1
theorem witness_1 : WitnessClaimed_1 := ⟨start1.p0, start1.e0, start1.about1, start1.theMethod, start1.args0, start1.below0, start1.atStart⟩
end Jvm.Pilot.@@N@@
