import JvmDerived
import JvmDerived.Pilot.@@N@@Statement
import JvmDerived.Pilot.@@N@@Code
set_option linter.unusedVariables false
set_option linter.unusedSimpArgs false
namespace Jvm.Pilot.@@N@@
open Jvm Jvm.ClassFile Sem Op Lib Jvm.Free Jvm.Stand Jvm.LawKit Jvm.RoadKit Bundle Jvm.Pilot.@@N@@.Jvm.D
/-! OWN PRELUDE: a walk in continuation form: 'Goes .. U': from U on the body comes to its return, with Q -/
section OwnPrelude
variable {p : Program} {l : Launch} {e : Env} {R : Room} {s : State} {m : MethodId} {args : Array Value} {below : List Frame} {meth : Method} {c : Code} {T U U' : State} {locs : List Loc} {cells slots ce sl : Nat} {Q : Option Value → Heap → List Loc → Prop}
def Goes (p : Program) (e : Env) (s : State) (below : List Frame) (Q : Option Value → Heap → List Loc → Prop) (ce sl : Nat) (U : State) : Prop :=
  ∃ t o, Steps p.tables e below U t ∧ t.status = .running ∧ Ended t below o ∧ ∃ v L, o = .returned v ∧ Q v t.heap L ∧ FrameEnd s o t L ce sl
theorem Goes.st (h : ∀ t, Steps p.tables e below U' t → Steps p.tables e below U t) (k : Goes p e s below Q ce sl U') : Goes p e s below Q ce sl U := by
  obtain ⟨t, o, h1, r⟩ := k
  exact ⟨t, o, h t h1, r⟩
theorem Goes.tr (h : Steps p.tables e below U U') (k : Goes p e s below Q ce sl U') : Goes p e s below Q ce sl U := by
  obtain ⟨t, o, h1, r⟩ := k
  exact ⟨t, o, h.trans h1, r⟩
theorem Goes.out (X : Stand p l e R s m args below meth c T locs cells slots) (hlocks : meth.locks = false) {v : Option Value} (hv : meth.sig.returnType = none → v = none) (hc : cells ≤ ce) (hs : slots ≤ sl) (hq : Q v T.heap locs)
    (k : ∀ fs, (∀ (f : JFrame) (acts : List Action), f.method = m → f.locked = none → f.entered = [] → (doReturn e (T.setTop f) acts v).1 = T.setFrames fs) → Steps p.tables e below U (T.setFrames fs)) : Goes p e s below Q ce sl U := by
  obtain ⟨fs, hr, hrun, hended, hW, hsame⟩ := X.leave (v := v) hv hlocks
  exact ⟨_, _, k fs hr, hrun, hended, _, _, rfl, hq, ⟨_, rfl⟩, hW, hsame.mono hc hs⟩
theorem Goes.retI (X : Stand p l e R s m args below meth c T locs cells slots) (hx : p.tables.exec = Jvm.exec) (hlocks : meth.locks = false) {pc : Nat} {Ls : Array Slot} {z : Int32} {rest : List Value} (hret : meth.sig.returnType = some .int) (hd : decode c.code pc = .ok (.ireturn, 1))
    (hc : cells ≤ ce) (hs : slots ≤ sl) (hq : Q (some (.int z)) T.heap locs) : Goes p e s below Q ce sl (T.setTop (mkF m pc Ls (.int z :: rest))) :=
  Goes.out X hlocks (fun h => by rw [hret] at h; cases h) hc hs hq fun fs hl => retOut X hx hret rfl (Or.inl ⟨rfl, Or.inl rfl, _, rfl⟩) hd hl
theorem Goes.retZ (X : Stand p l e R s m args below meth c T locs cells slots) (hx : p.tables.exec = Jvm.exec) (hlocks : meth.locks = false) {pc : Nat} {Ls : Array Slot} {z : Int32} {rest : List Value} (hret : meth.sig.returnType = some .boolean) (hd : decode c.code pc = .ok (.ireturn, 1))
    (hz : z &&& 1 = z) (hc : cells ≤ ce) (hs : slots ≤ sl) (hq : Q (some (.int z)) T.heap locs) : Goes p e s below Q ce sl (T.setTop (mkF m pc Ls (.int z :: rest))) :=
  Goes.out X hlocks (fun h => by rw [hret] at h; cases h) hc hs hq fun fs hl => retOut X hx hret (by show Value.int (z &&& 1) = _; rw [hz]) (Or.inl ⟨rfl, Or.inr (Or.inl rfl), _, rfl⟩) hd hl
theorem Goes.retJ (X : Stand p l e R s m args below meth c T locs cells slots) (hx : p.tables.exec = Jvm.exec) (hlocks : meth.locks = false) {pc : Nat} {Ls : Array Slot} {z : Int64} {rest : List Value} (hret : meth.sig.returnType = some .long) (hd : decode c.code pc = .ok (.lreturn, 1))
    (hc : cells ≤ ce) (hs : slots ≤ sl) (hq : Q (some (.long z)) T.heap locs) : Goes p e s below Q ce sl (T.setTop (mkF m pc Ls (.long z :: rest))) :=
  Goes.out X hlocks (fun h => by rw [hret] at h; cases h) hc hs hq fun fs hl => retOut X hx hret rfl (Or.inr (Or.inl ⟨rfl, rfl, _, rfl⟩)) hd hl
theorem Goes.retA (X : Stand p l e R s m args below meth c T locs cells slots) (hx : p.tables.exec = Jvm.exec) (hlocks : meth.locks = false) {pc : Nat} {Ls : Array Slot} {w : Value} {t : FieldType} {rest : List Value} (hret : meth.sig.returnType = some t) (hd : decode c.code pc = .ok (.areturn, 1))
    (ht : t.isReference = true) (hw : w.isRef = true) (hn : narrow t w = w) (hc : cells ≤ ce) (hs : slots ≤ sl) (hq : Q (some w) T.heap locs) : Goes p e s below Q ce sl (T.setTop (mkF m pc Ls (w :: rest))) :=
  Goes.out X hlocks (fun h => by rw [hret] at h; cases h) hc hs hq fun fs hl => retOut X hx hret hn (Or.inr (Or.inr (Or.inr (Or.inr ⟨rfl, ht, hw⟩)))) hd hl
theorem Goes.retV (X : Stand p l e R s m args below meth c T locs cells slots) (hx : p.tables.exec = Jvm.exec) (hlocks : meth.locks = false) {pc : Nat} {Ls : Array Slot} (hret : meth.sig.returnType = none) (hd : decode c.code pc = .ok (.return_, 1))
    (hc : cells ≤ ce) (hs : slots ≤ sl) (hq : Q none T.heap locs) : Goes p e s below Q ce sl (T.setTop (mkF m pc Ls [])) :=
  Goes.out X hlocks (fun _ => rfl) hc hs hq fun fs hl => X.returnOut hx hret hd hl
/-- a boolean as the machine has it -/
def b2i (b : Bool) : Int32 := if b then 1 else 0
theorem b2i_one (b : Bool) : b2i b &&& 1 = b2i b := by cases b <;> rfl
theorem b2i_t {b : Bool} (h : ¬ b2i b = 0) : b = true := by cases b; exact absurd rfl h; rfl
theorem b2i_f {b : Bool} (h : b2i b = 0) : b = false := by cases b; rfl; exact absurd h (by decide)
theorem Exa_ns {Z : State} {h : Heap} {a : Addr} {C : String} (E : Exa Z h a C) : ∀ cell : Cell, h[a]? = some cell → cell.vm.isStatics = false := fun cell hc => by
  obtain ⟨c1, _, h1, -, -, h4, -⟩ := E
  cases h1.symm.trans hc
  exact h4
theorem Sta_keep {Z : State} {h h' : Heap} {C n d : String} {v : Value} {ws : List Addr} (F : Sta Z h C n d v) (K : Keep h h' ws) (q : ∀ x ∈ ws, ∀ cell : Cell, h[x]? = some cell → cell.vm.isStatics = false) : Sta Z h' C n d v := by
  obtain ⟨cf, i, k, f, st, cell, h1, h2, h3, h4, h5, h6, h7⟩ := F
  exact ⟨cf, i, k, f, st, cell, h1, h2, h3, h4, K.2.1 _ _ h5 (fun y => by have := q _ y _ h5; rw [h6] at this; cases this), h6, h7⟩
theorem own_selp {u : State} {as : Array Value} {y : MethodName} {n : Nat} (hins : (Cond.instantiable y.cls n).before as u = true) (hpriv : u.PrivateAt y) (hinst : (Cond.instanceMethod y).before as u = true) (hy : y.cls ≠ "java/lang/invoke/MethodHandle" ∧ y.cls ≠ "java/lang/invoke/VarHandle") : (Cond.selects y.cls y y).before as u = true := by
  obtain ⟨c, k, hc, hk, -, hniab, -, -⟩ := Cond.instantiable_spec hins
  exact selects_self_of_private hc hk (Bool.or_eq_false_iff.mp hniab).1 hpriv hinst hy
end OwnPrelude

/-- an IntList: the object, its array, its capacity, what it holds -/
def IL (Z : State) (h : Heap) (a arr : Addr) (k : ClassId) (z : Int32) (xs : List Int32) : Prop :=
  Exa Z h a "com/example/cosine/cosine/index/IntList" ∧ Fld Z h a "com/example/cosine/cosine/index/IntList" "size" "I" (.int xs.length.toInt32) ∧ Fld Z h a "com/example/cosine/cosine/index/IntList" "values" "[I" (.ref arr) ∧ Arv Z h arr k .int z (xs.map .int) (.int 0) ∧ Exa Z h arr "[I" ∧ xs.length ≤ z.toNatClampNeg ∧ z.toNatClampNeg ≤ 8 ∧ ¬ z < 0 ∧ a ≠ arr
theorem IL.keep {Z : State} {h h' : Heap} {a arr : Addr} {k : ClassId} {z : Int32} {xs : List Int32} {ws : List Addr} (I : IL Z h a arr k z xs) (K : Keep h h' ws) (h1 : a ∉ ws) (h2 : arr ∉ ws) : IL Z h' a arr k z xs := by
  obtain ⟨i1, i2, i3, i4, i5, r⟩ := I
  exact ⟨i1.keep K, i2.keep K h1, i3.keep K h1, i4.keep K h2, i5.keep K, r⟩
theorem own_push {Z : State} {h h' : Heap} {a : Addr} {k : ClassId} {ty : FieldType} {z j : Int32} {vs : List Value} {dv v : Value} {c : Cell} (A : Arr Z h a c ty) (q1 : c.cls = k) (S : c.slots.size = z.toNatClampNeg) (q3 : ¬ z < 0) (H : Has c vs dv) (G : ∀ i, i < c.slots.size → fits ty (vs.getD i dv) = true)
    (hv : fits ty v = true) (W : Wr h h' a j.toNatClampNeg v) (hj : j.toNatClampNeg = vs.length) : Arv Z h' a k ty z (vs ++ [v]) dv := by
  have q := Arv.set (vs := vs ++ List.replicate 1 dv) A q1 S q3 (fun i hi => by rw [pad_rep]; exact H i hi) (fun i hi => by rw [pad_rep]; exact G i hi) hv W vs.length hj (by simp)
  have e : (vs ++ List.replicate 1 dv).set vs.length v = vs ++ [v] := by simp
  rwa [e] at q
theorem own_small (n : Nat) (h : n ≤ 3) : n = 0 ∨ n = 1 ∨ n = 2 ∨ n = 3 := by omega
theorem own_nat (n : Nat) (h : n ≤ 3) : ¬ n.toInt32 < 0 ∧ n.toInt32.toNatClampNeg = n ∧ (n + 1).toInt32 = n.toInt32 + (1 : Int32) := by
  rcases own_small n h with rfl | rfl | rfl | rfl <;> decide +kernel
theorem own_lt (i z : Int32) (n : Nat) (h : n ≤ z.toNatClampNeg) (hi : ¬ i < 0) (hn : i.toNatClampNeg < n) : ¬ i < 0 ∧ i < z := by
  refine ⟨hi, ?_⟩
  rw [Int32.lt_iff_toInt_lt]
  rw [Int32.lt_iff_toInt_lt] at hi
  have e : (0 : Int32).toInt = 0 := rfl
  simp only [Int32.toNatClampNeg] at h hn
  omega
theorem own_full (n : Nat) (z : Int32) (h3 : n ≤ 3) (h : n ≤ z.toNatClampNeg) (hz : ¬ z < 0) (hne : ¬ n.toInt32 = z) : n + 1 ≤ z.toNatClampNeg := by
  refine Nat.lt_of_le_of_ne h fun q => hne ?_
  have e := (own_nat n h3).2.1
  rw [← Int32.toInt_inj]
  have h1 := (own_nat n h3).1
  rw [Int32.lt_iff_toInt_lt] at h1 hz
  have e0 : (0 : Int32).toInt = 0 := rfl
  simp only [Int32.toNatClampNeg] at e q
  omega

theorem d1_0 : decode prog_18_method_1_code 0 = .ok (.aload_n 0, 1) := by decide +kernel
theorem d1_1 : decode prog_18_method_1_code 1 = .ok (.invokespecial 3, 3) := by decide +kernel
theorem d1_4 : decode prog_18_method_1_code 4 = .ok (.aload_n 0, 1) := by decide +kernel
theorem d1_5 : decode prog_18_method_1_code 5 = .ok (.iload_n 1, 1) := by decide +kernel
theorem d1_6 : decode prog_18_method_1_code 6 = .ok (.newarray .int, 2) := by decide +kernel
theorem d1_8 : decode prog_18_method_1_code 8 = .ok (.putfield 9, 3) := by decide +kernel
theorem d1_11 : decode prog_18_method_1_code 11 = .ok (.return_, 1) := by decide +kernel
theorem pn_0 : plainName "com/example/cosine/cosine/index/IntList" = true := by first | (simp [plainName, overriddenIn]; done) | decide +kernel
theorem ef_rm1 (m : MethodId) (a1 : Addr) (p2 : Int32) : entryFrame m #[(.ref a1), (.int p2)] 2 = mkF m 0 #[.val (.ref a1), .val (.int p2)] [] := by first | (simp [entryFrame, mkF, argsToLocals, Value.category]; done) | rfl
def Q1 (Z : State) (a1 : Addr) (p2 : Int32) (h0 : Heap) (n0 : Nat) (v : Option Value) (h : Heap) (L : List Loc) : Prop := v = none ∧ Fr n0 L ∧ Keep h0 h [a1] ∧ ∃ arr k, IL Z h a1 arr k p2 [] ∧ n0 ≤ arr ∧ h0.size ≤ arr
set_option maxRecDepth 65536 in
set_option maxHeartbeats 40000000 in
theorem rm1 (l : Launch) (Z : State) (a0 : Array Value) (hw : ∀ d ∈ tables_1, d.before a0 Z = true) (ws : List Jvm.Cond) (a1 : Addr) (p2 : Int32) (h0 : Heap) (n0 : Nat) (Z0 : n0 ≤ h0.size) (E_a1 : Exa Z h0 a1 "com/example/cosine/cosine/index/IntList") (F_values_a1 : Fld Z h0 a1 "com/example/cosine/cosine/index/IntList" "values" "[I" .null) (F_size_a1 : Fld Z h0 a1 "com/example/cosine/cosine/index/IntList" "size" "I" (.int (0 : Int32))) (g_a1 : n0 ≤ a1) (hp : ¬ p2 < 0) (hcap : p2.toNatClampNeg ≤ 8) :
    MetFree l (⟨"com/example/cosine/cosine/index/IntList", "<init>", "(I)V"⟩ : MethodName) (head1 (Jvm.Cond.code (⟨"com/example/cosine/cosine/index/IntList", "<init>", "(I)V"⟩ : MethodName) prog_18_method_1_code 2 none :: ws) ({ frames := 1, cells := 1, slots := 8, locals := 12 } : Room)) (fun a U => a = #[(.ref a1), (.int p2)] ∧ Z.Warmed39 U.vm ∧ U.heap = h0) (fun _ _ _ _ _ => True) (fun _ U o U' => ∃ v L, o = .returned v ∧ Q1 Z a1 p2 h0 n0 v U'.heap L ∧ FrameEnd U o U' L ({ frames := 1, cells := 1, slots := 8, locals := 12 } : Room).cells ({ frames := 1, cells := 1, slots := 8, locals := 12 } : Room).slots) := by
  refine MetFree.of_bodySF (plainFor_of_name pn_0) hisR ?_
  intro p e s m args below meth c s₁ Bd hml0 hP hK
  obtain ⟨rfl, hZ, hh⟩ := hP
  have hx := Bd.exec
  have hby := Bd.bytes
  have hml : c.maxLocals = 2 := hml0
  have hown : s.vm.findClass "com/example/cosine/cosine/index/IntList" = some m.cls := findClass_of_methodNamed Bd.named
  have hnm := (name_of_methodNamed Bd.named Bd.method).1
  have X0 : Stand p l e ({ frames := 1, cells := 1, slots := 8, locals := 12 } : Room) s m #[(.ref a1), (.int p2)] below meth c s₁ [] 0 0 := Stand.of_body Bd
  have e0 : s₁.heap = h0 := by rw [← hh, Bd.state]; rfl
  have N0 := Fr.nil n0
  show Goes p e s below (fun v h L => Q1 Z a1 p2 h0 n0 v h L) ({ frames := 1, cells := 1, slots := 8, locals := 12 } : Room).cells ({ frames := 1, cells := 1, slots := 8, locals := 12 } : Room).slots (s₁.setTop (entryFrame m #[(.ref a1), (.int p2)] 2))
  refine Goes.st (U' := s₁.setTop (mkF m 0 #[.val (.ref a1), .val (.int p2)] [])) (fun t k => castTop (ef_rm1 m a1 p2) k) ?_
  refine Goes.st (U' := s₁.setTop (mkF m 1 #[.val (.ref a1), .val (.int p2)] [(.ref a1)])) (fun t k => XS.aloadN X0.here hx rfl (hb hby d1_0) rfl rfl k) ?_
  obtain ⟨T1, X1, e1, st1⟩ := initO X0 hx hZ hown (hw _ (List.mem_of_getElem? (i := 7) rfl)) (hw _ (List.mem_of_getElem? (i := 8) rfl)) (hw _ (List.mem_of_getElem? (i := 9) rfl)) e0 (g := (mkF m 1 #[.val (.ref a1), .val (.int p2)] [(.ref a1)])) rfl (by rw [hml]; rfl) rfl (hb hby d1_1) (by decide) (W := 0) (by show 2 * 0 + _ ≤ _; exact Nat.le_of_eq rfl) (by decide)
  refine Goes.st (U' := T1.setTop (mkF m 4 #[.val (.ref a1), .val (.int p2)] [])) (fun t k => st1 t k) ?_
  refine Goes.st (U' := T1.setTop (mkF m 5 #[.val (.ref a1), .val (.int p2)] [(.ref a1)])) (fun t k => XS.aloadN X1.here hx rfl (hb hby d1_4) rfl rfl k) ?_
  refine Goes.st (U' := T1.setTop (mkF m 6 #[.val (.ref a1), .val (.int p2)] [(.int p2), (.ref a1)])) (fun t k => XS.iloadN X1.here hx rfl (hb hby d1_5) rfl k) ?_
  obtain ⟨T2, h2, k2, X2, e2, E2, A2, Ea2, st2⟩ := newPE X1 hx hZ (hw _ (List.mem_of_getElem? (i := 10) rfl)) e1 (g := (mkF m 6 #[.val (.ref a1), .val (.int p2)] [(.int p2), (.ref a1)])) rfl (hb hby d1_6) rfl hp (cap := 8) hcap (by decide) (by decide) (by decide) (ad := "[I") rfl
  obtain ⟨b2, g2⟩ : ∃ z, z = h0.size := ⟨_, rfl⟩
  rw [← g2] at A2 Ea2 st2
  have ne_a1_b2 : a1 ≠ b2 := Nat.ne_of_lt (Nat.lt_of_lt_of_le E_a1.lt (Nat.le_of_eq g2.symm))
  have g_b2 : n0 ≤ b2 := Nat.le_trans Z0 (Nat.le_of_eq g2.symm)
  have sz_b2 : h0.size ≤ b2 := Nat.le_trans (Keep.refl h0 [a1]).1 (Nat.le_of_eq g2.symm)
  have K_3 : Keep h0 h2 [a1] := (Keep.refl h0 [a1]).ext E2
  have V_b2 : Arv Z h2 b2 k2 .int p2 [] (.int (0 : Int32)) := Arv.new A2 hp
  refine Goes.st (U' := T2.setTop (mkF m 8 #[.val (.ref a1), .val (.int p2)] [(.ref b2), (.ref a1)])) (fun t k => st2 t k) ?_
  obtain ⟨T4, h4, X4, e4, W4, st4⟩ := putF X2 hx hZ hown (host := "") (Or.inl (hw _ (List.mem_of_getElem? (i := 11) rfl))) Via.refl e2 (F_values_a1.ext E2) (E_a1.ext E2) (Or.inl (hw _ (List.mem_of_getElem? (i := 12) rfl))) (hw _ (List.mem_of_getElem? (i := 2) rfl)) (ty := (.array .int)) (by decide) rfl rfl (g := (mkF m 8 #[.val (.ref a1), .val (.int p2)] [(.ref b2), (.ref a1)])) rfl rfl (hb hby d1_8)
  have Fw4 := (F_values_a1.ext E2).same W4
  have N4 := Fr.snoc X4 N0 g_a1
  have K_5 : Keep h0 h4 [a1] := K_3.wr W4 (Or.inl (List.mem_of_getElem? (i := 0) rfl))
  refine Goes.st (U' := T4.setTop (mkF m 11 #[.val (.ref a1), .val (.int p2)] [])) (fun t k => st4 t k) ?_
  refine Goes.retV X4 hx (BodyLoose.notSynchronized Bd) Bd.returns (hb hby d1_11) (by decide) (by decide) ?_
  show Q1 Z a1 p2 h0 n0 _ T4.heap _
  rw [e4]
  exact ⟨rfl, N4, K_5, b2, k2, ⟨((E_a1.ext E2).wr W4), ((F_size_a1.ext E2).other W4 (Or.inr (slot_ne (Or.inl (hw _ (List.mem_of_getElem? (i := 19) rfl))) (Or.inl (hw _ (List.mem_of_getElem? (i := 12) rfl))) (by decide) (t := .int) (t' := (.array .int)) (by decide) (by decide)))), Fw4, (V_b2.other W4 (Ne.symm ne_a1_b2)), (Ea2.wr W4), Nat.zero_le _, hcap, hp, ne_a1_b2⟩, g_b2, sz_b2⟩
theorem d4_0 : decode jdk_29_method_66_code 0 = .ok (.lload_n 0, 1) := by decide +kernel
theorem d4_1 : decode jdk_29_method_66_code 1 = .ok (.lload_n 2, 1) := by decide +kernel
theorem d4_2 : decode jdk_29_method_66_code 2 = .ok (.lcmp, 1) := by decide +kernel
theorem d4_3 : decode jdk_29_method_66_code 3 = .ok (.ifCond .lt 7, 3) := by decide +kernel
theorem d4_6 : decode jdk_29_method_66_code 6 = .ok (.lload_n 0, 1) := by decide +kernel
theorem d4_7 : decode jdk_29_method_66_code 7 = .ok (.goto 4, 3) := by decide +kernel
theorem d4_10 : decode jdk_29_method_66_code 10 = .ok (.lload_n 2, 1) := by decide +kernel
theorem d4_11 : decode jdk_29_method_66_code 11 = .ok (.lreturn, 1) := by decide +kernel
theorem ef_rm4 (m : MethodId) (q1 : Int64) (q2 : Int64) : entryFrame m #[(.long q1), (.long q2)] 4 = mkF m 0 #[.val (.long q1), .second, .val (.long q2), .second] [] := by first | (simp [entryFrame, mkF, argsToLocals, Value.category]; done) | rfl
def fn4 (q1 : Int64) (q2 : Int64) : Int64 := (if q1 < q2 then q2 else q1)
def Q4 (Z : State) (q1 : Int64) (q2 : Int64) (h0 : Heap) (n0 : Nat) (v : Option Value) (h : Heap) (L : List Loc) : Prop := v = some (.long (fn4 q1 q2)) ∧ Fr n0 L ∧ h = h0
set_option maxRecDepth 65536 in
set_option maxHeartbeats 40000000 in
theorem rm4 (l : Launch) (Z : State) (a0 : Array Value) (hw : ∀ d ∈ tables_1, d.before a0 Z = true) (ws : List Jvm.Cond) (q1 : Int64) (q2 : Int64) (h0 : Heap) (n0 : Nat) (Z0 : n0 ≤ h0.size) :
    MetFree l (⟨"java/lang/Math", "max", "(JJ)J"⟩ : MethodName) (head1 (Jvm.Cond.code (⟨"java/lang/Math", "max", "(JJ)J"⟩ : MethodName) jdk_29_method_66_code 4 (some .long) :: ws) ({ frames := 0, cells := 0, slots := 0, locals := 0 } : Room)) (fun a U => a = #[(.long q1), (.long q2)] ∧ Z.Warmed39 U.vm ∧ U.heap = h0) (fun _ _ _ _ _ => True) (fun _ U o U' => ∃ v L, o = .returned v ∧ Q4 Z q1 q2 h0 n0 v U'.heap L ∧ FrameEnd U o U' L ({ frames := 0, cells := 0, slots := 0, locals := 0 } : Room).cells ({ frames := 0, cells := 0, slots := 0, locals := 0 } : Room).slots) := by
  refine MetFree.of_bodySF (Jvm.Free.JP.mathPlain rfl (by decide +kernel)) hisR ?_
  intro p e s m args below meth c s₁ Bd hml0 hP hK
  obtain ⟨rfl, hZ, hh⟩ := hP
  have hx := Bd.exec
  have hby := Bd.bytes
  have hml : c.maxLocals = 4 := hml0
  have hown : s.vm.findClass "java/lang/Math" = some m.cls := findClass_of_methodNamed Bd.named
  have hnm := (name_of_methodNamed Bd.named Bd.method).1
  have X0 : Stand p l e ({ frames := 0, cells := 0, slots := 0, locals := 0 } : Room) s m #[(.long q1), (.long q2)] below meth c s₁ [] 0 0 := Stand.of_body Bd
  have e0 : s₁.heap = h0 := by rw [← hh, Bd.state]; rfl
  have N0 := Fr.nil n0
  show Goes p e s below (fun v h L => Q4 Z q1 q2 h0 n0 v h L) ({ frames := 0, cells := 0, slots := 0, locals := 0 } : Room).cells ({ frames := 0, cells := 0, slots := 0, locals := 0 } : Room).slots (s₁.setTop (entryFrame m #[(.long q1), (.long q2)] 4))
  refine Goes.st (U' := s₁.setTop (mkF m 0 #[.val (.long q1), .second, .val (.long q2), .second] [])) (fun t k => castTop (ef_rm4 m q1 q2) k) ?_
  refine Goes.st (U' := s₁.setTop (mkF m 1 #[.val (.long q1), .second, .val (.long q2), .second] [(.long q1)])) (fun t k => XS.lloadN X0.here hx rfl (hb hby d4_0) rfl k) ?_
  refine Goes.st (U' := s₁.setTop (mkF m 2 #[.val (.long q1), .second, .val (.long q2), .second] [(.long q2), (.long q1)])) (fun t k => XS.lloadN X0.here hx rfl (hb hby d4_1) rfl k) ?_
  refine Goes.st (U' := s₁.setTop (mkF m 3 #[.val (.long q1), .second, .val (.long q2), .second] [(.int (lcmpW q1 q2))])) (fun t k => XS.lcmp X0.here hx rfl (hb hby d4_2) rfl k) ?_
  rcases Decidable.em (q1 < q2) with hc3 | hc3
  · refine Goes.st (U' := s₁.setTop (mkF m 10 #[.val (.long q1), .second, .val (.long q2), .second] [])) (fun t k => XS.ifYes X0.here hx rfl (pc0 := 3) (pc' := 10) rfl (hb hby d4_3) rfl ((if0 _ _).trans (tlt ((lw_lt _ _).mpr hc3)).1) (by decide) (by decide) k) ?_
    refine Goes.st (U' := s₁.setTop (mkF m 11 #[.val (.long q1), .second, .val (.long q2), .second] [(.long q2)])) (fun t k => XS.lloadN X0.here hx rfl (hb hby d4_10) rfl k) ?_
    refine Goes.retJ X0 hx (BodyLoose.notSynchronized Bd) Bd.returns (hb hby d4_11) (by decide) (by decide) ?_
    show Q4 Z q1 q2 h0 n0 _ s₁.heap _
    rw [e0]
    exact ⟨(congrArg some (congrArg _ (by unfold fn4; rw [if_pos hc3]))), N0, rfl⟩
  · refine Goes.st (U' := s₁.setTop (mkF m 6 #[.val (.long q1), .second, .val (.long q2), .second] [])) (fun t k => XS.ifNo X0.here hx rfl (hb hby d4_3) rfl ((if0 _ _).trans (flt (fun q => hc3 ((lw_lt _ _).mp q))).1) k) ?_
    refine Goes.st (U' := s₁.setTop (mkF m 7 #[.val (.long q1), .second, .val (.long q2), .second] [(.long q1)])) (fun t k => XS.lloadN X0.here hx rfl (hb hby d4_6) rfl k) ?_
    refine Goes.st (U' := s₁.setTop (mkF m 11 #[.val (.long q1), .second, .val (.long q2), .second] [(.long q1)])) (fun t k => XS.goto X0.here hx rfl (pc0 := 7) (pc' := 11) rfl (hb hby d4_7) (by decide) (by decide) k) ?_
    refine Goes.retJ X0 hx (BodyLoose.notSynchronized Bd) Bd.returns (hb hby d4_11) (by decide) (by decide) ?_
    show Q4 Z q1 q2 h0 n0 _ s₁.heap _
    rw [e0]
    exact ⟨(congrArg some (congrArg _ (by unfold fn4; rw [if_neg hc3]))), N0, rfl⟩
theorem d5_0 : decode jdk_29_method_70_code 0 = .ok (.lload_n 0, 1) := by decide +kernel
theorem d5_1 : decode jdk_29_method_70_code 1 = .ok (.lload_n 2, 1) := by decide +kernel
theorem d5_2 : decode jdk_29_method_70_code 2 = .ok (.lcmp, 1) := by decide +kernel
theorem d5_3 : decode jdk_29_method_70_code 3 = .ok (.ifCond .gt 7, 3) := by decide +kernel
theorem d5_6 : decode jdk_29_method_70_code 6 = .ok (.lload_n 0, 1) := by decide +kernel
theorem d5_7 : decode jdk_29_method_70_code 7 = .ok (.goto 4, 3) := by decide +kernel
theorem d5_10 : decode jdk_29_method_70_code 10 = .ok (.lload_n 2, 1) := by decide +kernel
theorem d5_11 : decode jdk_29_method_70_code 11 = .ok (.lreturn, 1) := by decide +kernel
theorem ef_rm5 (m : MethodId) (q1 : Int64) (q2 : Int64) : entryFrame m #[(.long q1), (.long q2)] 4 = mkF m 0 #[.val (.long q1), .second, .val (.long q2), .second] [] := by first | (simp [entryFrame, mkF, argsToLocals, Value.category]; done) | rfl
def fn5 (q1 : Int64) (q2 : Int64) : Int64 := (if q2 < q1 then q2 else q1)
def Q5 (Z : State) (q1 : Int64) (q2 : Int64) (h0 : Heap) (n0 : Nat) (v : Option Value) (h : Heap) (L : List Loc) : Prop := v = some (.long (fn5 q1 q2)) ∧ Fr n0 L ∧ h = h0
set_option maxRecDepth 65536 in
set_option maxHeartbeats 40000000 in
theorem rm5 (l : Launch) (Z : State) (a0 : Array Value) (hw : ∀ d ∈ tables_1, d.before a0 Z = true) (ws : List Jvm.Cond) (q1 : Int64) (q2 : Int64) (h0 : Heap) (n0 : Nat) (Z0 : n0 ≤ h0.size) :
    MetFree l (⟨"java/lang/Math", "min", "(JJ)J"⟩ : MethodName) (head1 (Jvm.Cond.code (⟨"java/lang/Math", "min", "(JJ)J"⟩ : MethodName) jdk_29_method_70_code 4 (some .long) :: ws) ({ frames := 0, cells := 0, slots := 0, locals := 0 } : Room)) (fun a U => a = #[(.long q1), (.long q2)] ∧ Z.Warmed39 U.vm ∧ U.heap = h0) (fun _ _ _ _ _ => True) (fun _ U o U' => ∃ v L, o = .returned v ∧ Q5 Z q1 q2 h0 n0 v U'.heap L ∧ FrameEnd U o U' L ({ frames := 0, cells := 0, slots := 0, locals := 0 } : Room).cells ({ frames := 0, cells := 0, slots := 0, locals := 0 } : Room).slots) := by
  refine MetFree.of_bodySF (Jvm.Free.JP.mathPlain rfl (by decide +kernel)) hisR ?_
  intro p e s m args below meth c s₁ Bd hml0 hP hK
  obtain ⟨rfl, hZ, hh⟩ := hP
  have hx := Bd.exec
  have hby := Bd.bytes
  have hml : c.maxLocals = 4 := hml0
  have hown : s.vm.findClass "java/lang/Math" = some m.cls := findClass_of_methodNamed Bd.named
  have hnm := (name_of_methodNamed Bd.named Bd.method).1
  have X0 : Stand p l e ({ frames := 0, cells := 0, slots := 0, locals := 0 } : Room) s m #[(.long q1), (.long q2)] below meth c s₁ [] 0 0 := Stand.of_body Bd
  have e0 : s₁.heap = h0 := by rw [← hh, Bd.state]; rfl
  have N0 := Fr.nil n0
  show Goes p e s below (fun v h L => Q5 Z q1 q2 h0 n0 v h L) ({ frames := 0, cells := 0, slots := 0, locals := 0 } : Room).cells ({ frames := 0, cells := 0, slots := 0, locals := 0 } : Room).slots (s₁.setTop (entryFrame m #[(.long q1), (.long q2)] 4))
  refine Goes.st (U' := s₁.setTop (mkF m 0 #[.val (.long q1), .second, .val (.long q2), .second] [])) (fun t k => castTop (ef_rm5 m q1 q2) k) ?_
  refine Goes.st (U' := s₁.setTop (mkF m 1 #[.val (.long q1), .second, .val (.long q2), .second] [(.long q1)])) (fun t k => XS.lloadN X0.here hx rfl (hb hby d5_0) rfl k) ?_
  refine Goes.st (U' := s₁.setTop (mkF m 2 #[.val (.long q1), .second, .val (.long q2), .second] [(.long q2), (.long q1)])) (fun t k => XS.lloadN X0.here hx rfl (hb hby d5_1) rfl k) ?_
  refine Goes.st (U' := s₁.setTop (mkF m 3 #[.val (.long q1), .second, .val (.long q2), .second] [(.int (lcmpW q1 q2))])) (fun t k => XS.lcmp X0.here hx rfl (hb hby d5_2) rfl k) ?_
  rcases Decidable.em (q2 < q1) with hc3 | hc3
  · refine Goes.st (U' := s₁.setTop (mkF m 10 #[.val (.long q1), .second, .val (.long q2), .second] [])) (fun t k => XS.ifYes X0.here hx rfl (pc0 := 3) (pc' := 10) rfl (hb hby d5_3) rfl ((if0 _ _).trans (tlt ((lw_gt _ _).mpr hc3)).2.2.1) (by decide) (by decide) k) ?_
    refine Goes.st (U' := s₁.setTop (mkF m 11 #[.val (.long q1), .second, .val (.long q2), .second] [(.long q2)])) (fun t k => XS.lloadN X0.here hx rfl (hb hby d5_10) rfl k) ?_
    refine Goes.retJ X0 hx (BodyLoose.notSynchronized Bd) Bd.returns (hb hby d5_11) (by decide) (by decide) ?_
    show Q5 Z q1 q2 h0 n0 _ s₁.heap _
    rw [e0]
    exact ⟨(congrArg some (congrArg _ (by unfold fn5; rw [if_pos hc3]))), N0, rfl⟩
  · refine Goes.st (U' := s₁.setTop (mkF m 6 #[.val (.long q1), .second, .val (.long q2), .second] [])) (fun t k => XS.ifNo X0.here hx rfl (hb hby d5_3) rfl ((if0 _ _).trans (flt (fun q => hc3 ((lw_gt _ _).mp q))).2.2.1) k) ?_
    refine Goes.st (U' := s₁.setTop (mkF m 7 #[.val (.long q1), .second, .val (.long q2), .second] [(.long q1)])) (fun t k => XS.lloadN X0.here hx rfl (hb hby d5_6) rfl k) ?_
    refine Goes.st (U' := s₁.setTop (mkF m 11 #[.val (.long q1), .second, .val (.long q2), .second] [(.long q1)])) (fun t k => XS.goto X0.here hx rfl (pc0 := 7) (pc' := 11) rfl (hb hby d5_7) (by decide) (by decide) k) ?_
    refine Goes.retJ X0 hx (BodyLoose.notSynchronized Bd) Bd.returns (hb hby d5_11) (by decide) (by decide) ?_
    show Q5 Z q1 q2 h0 n0 _ s₁.heap _
    rw [e0]
    exact ⟨(congrArg some (congrArg _ (by unfold fn5; rw [if_neg hc3]))), N0, rfl⟩
theorem d7_0 : decode jdk_29_method_69_code 0 = .ok (.iload_n 0, 1) := by decide +kernel
theorem d7_1 : decode jdk_29_method_69_code 1 = .ok (.iload_n 1, 1) := by decide +kernel
theorem d7_2 : decode jdk_29_method_69_code 2 = .ok (.if_icmp .gt 7, 3) := by decide +kernel
theorem d7_5 : decode jdk_29_method_69_code 5 = .ok (.iload_n 0, 1) := by decide +kernel
theorem d7_6 : decode jdk_29_method_69_code 6 = .ok (.goto 4, 3) := by decide +kernel
theorem d7_9 : decode jdk_29_method_69_code 9 = .ok (.iload_n 1, 1) := by decide +kernel
theorem d7_10 : decode jdk_29_method_69_code 10 = .ok (.ireturn, 1) := by decide +kernel
theorem ef_rm7 (m : MethodId) (p1 : Int32) (p2 : Int32) : entryFrame m #[(.int p1), (.int p2)] 2 = mkF m 0 #[.val (.int p1), .val (.int p2)] [] := by first | (simp [entryFrame, mkF, argsToLocals, Value.category]; done) | rfl
def fn7 (p1 : Int32) (p2 : Int32) : Int32 := (if p2 < p1 then p2 else p1)
def Q7 (Z : State) (p1 : Int32) (p2 : Int32) (h0 : Heap) (n0 : Nat) (v : Option Value) (h : Heap) (L : List Loc) : Prop := v = some (.int (fn7 p1 p2)) ∧ Fr n0 L ∧ h = h0
set_option maxRecDepth 65536 in
set_option maxHeartbeats 40000000 in
theorem rm7 (l : Launch) (Z : State) (a0 : Array Value) (hw : ∀ d ∈ tables_1, d.before a0 Z = true) (ws : List Jvm.Cond) (p1 : Int32) (p2 : Int32) (h0 : Heap) (n0 : Nat) (Z0 : n0 ≤ h0.size) :
    MetFree l (⟨"java/lang/Math", "min", "(II)I"⟩ : MethodName) (head1 (Jvm.Cond.code (⟨"java/lang/Math", "min", "(II)I"⟩ : MethodName) jdk_29_method_69_code 2 (some .int) :: ws) ({ frames := 0, cells := 0, slots := 0, locals := 0 } : Room)) (fun a U => a = #[(.int p1), (.int p2)] ∧ Z.Warmed39 U.vm ∧ U.heap = h0) (fun _ _ _ _ _ => True) (fun _ U o U' => ∃ v L, o = .returned v ∧ Q7 Z p1 p2 h0 n0 v U'.heap L ∧ FrameEnd U o U' L ({ frames := 0, cells := 0, slots := 0, locals := 0 } : Room).cells ({ frames := 0, cells := 0, slots := 0, locals := 0 } : Room).slots) := by
  refine MetFree.of_bodySF (Jvm.Free.JP.mathPlain rfl (by decide +kernel)) hisR ?_
  intro p e s m args below meth c s₁ Bd hml0 hP hK
  obtain ⟨rfl, hZ, hh⟩ := hP
  have hx := Bd.exec
  have hby := Bd.bytes
  have hml : c.maxLocals = 2 := hml0
  have hown : s.vm.findClass "java/lang/Math" = some m.cls := findClass_of_methodNamed Bd.named
  have hnm := (name_of_methodNamed Bd.named Bd.method).1
  have X0 : Stand p l e ({ frames := 0, cells := 0, slots := 0, locals := 0 } : Room) s m #[(.int p1), (.int p2)] below meth c s₁ [] 0 0 := Stand.of_body Bd
  have e0 : s₁.heap = h0 := by rw [← hh, Bd.state]; rfl
  have N0 := Fr.nil n0
  show Goes p e s below (fun v h L => Q7 Z p1 p2 h0 n0 v h L) ({ frames := 0, cells := 0, slots := 0, locals := 0 } : Room).cells ({ frames := 0, cells := 0, slots := 0, locals := 0 } : Room).slots (s₁.setTop (entryFrame m #[(.int p1), (.int p2)] 2))
  refine Goes.st (U' := s₁.setTop (mkF m 0 #[.val (.int p1), .val (.int p2)] [])) (fun t k => castTop (ef_rm7 m p1 p2) k) ?_
  refine Goes.st (U' := s₁.setTop (mkF m 1 #[.val (.int p1), .val (.int p2)] [(.int p1)])) (fun t k => XS.iloadN X0.here hx rfl (hb hby d7_0) rfl k) ?_
  refine Goes.st (U' := s₁.setTop (mkF m 2 #[.val (.int p1), .val (.int p2)] [(.int p2), (.int p1)])) (fun t k => XS.iloadN X0.here hx rfl (hb hby d7_1) rfl k) ?_
  rcases Decidable.em (p2 < p1) with hc2 | hc2
  · refine Goes.st (U' := s₁.setTop (mkF m 9 #[.val (.int p1), .val (.int p2)] [])) (fun t k => XS.icmpYes X0.here hx rfl (pc0 := 2) (pc' := 9) rfl (hb hby d7_2) rfl (tlt hc2).2.2.1 (by decide) (by decide) k) ?_
    refine Goes.st (U' := s₁.setTop (mkF m 10 #[.val (.int p1), .val (.int p2)] [(.int p2)])) (fun t k => XS.iloadN X0.here hx rfl (hb hby d7_9) rfl k) ?_
    refine Goes.retI X0 hx (BodyLoose.notSynchronized Bd) Bd.returns (hb hby d7_10) (by decide) (by decide) ?_
    show Q7 Z p1 p2 h0 n0 _ s₁.heap _
    rw [e0]
    exact ⟨(congrArg some (congrArg _ (by unfold fn7; rw [if_pos hc2]))), N0, rfl⟩
  · refine Goes.st (U' := s₁.setTop (mkF m 5 #[.val (.int p1), .val (.int p2)] [])) (fun t k => XS.icmpNo X0.here hx rfl (hb hby d7_2) rfl (flt hc2).2.2.1 k) ?_
    refine Goes.st (U' := s₁.setTop (mkF m 6 #[.val (.int p1), .val (.int p2)] [(.int p1)])) (fun t k => XS.iloadN X0.here hx rfl (hb hby d7_5) rfl k) ?_
    refine Goes.st (U' := s₁.setTop (mkF m 10 #[.val (.int p1), .val (.int p2)] [(.int p1)])) (fun t k => XS.goto X0.here hx rfl (pc0 := 6) (pc' := 10) rfl (hb hby d7_6) (by decide) (by decide) k) ?_
    refine Goes.retI X0 hx (BodyLoose.notSynchronized Bd) Bd.returns (hb hby d7_10) (by decide) (by decide) ?_
    show Q7 Z p1 p2 h0 n0 _ s₁.heap _
    rw [e0]
    exact ⟨(congrArg some (congrArg _ (by unfold fn7; rw [if_neg hc2]))), N0, rfl⟩
theorem own_copy (vs vd : List Value) (dv : Value) (n : Nat) (h1 : vs.length ≤ n) (h2 : vd.length = n) : ∀ i, vs.getD i dv = (vd.take (0 : Int32).toNatClampNeg ++ (List.range n).map (fun i => vs.getD ((0 : Int32).toNatClampNeg + i) dv) ++ vd.drop ((0 : Int32).toNatClampNeg + n)).getD i dv := by
  intro i
  have e : (0 : Int32).toNatClampNeg = 0 := rfl
  rw [e, Nat.zero_add, List.take_zero, List.nil_append, ← h2, List.drop_length, List.append_nil]
  simp only [List.getD_eq_getElem?_getD, Nat.zero_add]
  by_cases h : i < vd.length
  · simp [h]
  · rw [List.getElem?_eq_none (by omega), List.getElem?_eq_none (by simp; omega)]
theorem own_min (x y : Int32) (hx : ¬ x < 0) (hy : ¬ y < 0) : ¬ fn7 x y < 0 ∧ (fn7 x y).toNatClampNeg ≤ x.toNatClampNeg ∧ (fn7 x y).toNatClampNeg ≤ y.toNatClampNeg ∧ (fn7 x y = x ∨ fn7 x y = y) := by
  unfold fn7
  by_cases h : y < x
  · rw [if_pos h]
    refine ⟨hy, ?_, Nat.le_refl _, Or.inr rfl⟩
    rw [Int32.lt_iff_toInt_lt] at h
    simp only [Int32.toNatClampNeg]
    omega
  · rw [if_neg h]
    refine ⟨hx, Nat.le_refl _, ?_, Or.inl rfl⟩
    rw [Int32.lt_iff_toInt_lt] at h
    simp only [Int32.toNatClampNeg]
    omega

theorem own_nc (n : Nat) (h : n ≤ 3) : ¬ ((fn5 (fn4 (4 : Int64) ((2 : Int64) * (n.toInt32.toInt64))) (2147483639 : Int64)).toInt32) = n.toInt32 ∧ ¬ ((fn5 (fn4 (4 : Int64) ((2 : Int64) * (n.toInt32.toInt64))) (2147483639 : Int64)).toInt32) < 0 ∧ (((fn5 (fn4 (4 : Int64) ((2 : Int64) * (n.toInt32.toInt64))) (2147483639 : Int64)).toInt32)).toNatClampNeg ≤ 8 ∧ n.toInt32.toNatClampNeg ≤ (((fn5 (fn4 (4 : Int64) ((2 : Int64) * (n.toInt32.toInt64))) (2147483639 : Int64)).toInt32)).toNatClampNeg ∧ n + 1 ≤ (((fn5 (fn4 (4 : Int64) ((2 : Int64) * (n.toInt32.toInt64))) (2147483639 : Int64)).toInt32)).toNatClampNeg := by
  rcases own_small n h with rfl | rfl | rfl | rfl <;> decide +kernel

theorem d6_0 : decode jdk_65_method_123_code 0 = .ok (.iload_n 1, 1) := by decide +kernel
theorem d6_1 : decode jdk_65_method_123_code 1 = .ok (.aload_n 0, 1) := by decide +kernel
theorem d6_2 : decode jdk_65_method_123_code 2 = .ok (.arraylength, 1) := by decide +kernel
theorem d6_3 : decode jdk_65_method_123_code 3 = .ok (.if_icmp .ne 11, 3) := by decide +kernel
theorem d6_14 : decode jdk_65_method_123_code 14 = .ok (.iload_n 1, 1) := by decide +kernel
theorem d6_15 : decode jdk_65_method_123_code 15 = .ok (.newarray .int, 2) := by decide +kernel
theorem d6_17 : decode jdk_65_method_123_code 17 = .ok (.astore_n 2, 1) := by decide +kernel
theorem d6_18 : decode jdk_65_method_123_code 18 = .ok (.aload_n 0, 1) := by decide +kernel
theorem d6_19 : decode jdk_65_method_123_code 19 = .ok (.iconst 0, 1) := by decide +kernel
theorem d6_20 : decode jdk_65_method_123_code 20 = .ok (.aload_n 2, 1) := by decide +kernel
theorem d6_21 : decode jdk_65_method_123_code 21 = .ok (.iconst 0, 1) := by decide +kernel
theorem d6_22 : decode jdk_65_method_123_code 22 = .ok (.aload_n 0, 1) := by decide +kernel
theorem d6_23 : decode jdk_65_method_123_code 23 = .ok (.arraylength, 1) := by decide +kernel
theorem d6_24 : decode jdk_65_method_123_code 24 = .ok (.iload_n 1, 1) := by decide +kernel
theorem d6_25 : decode jdk_65_method_123_code 25 = .ok (.invokestatic 304, 3) := by decide +kernel
theorem d6_28 : decode jdk_65_method_123_code 28 = .ok (.invokestatic 150, 3) := by decide +kernel
theorem d6_31 : decode jdk_65_method_123_code 31 = .ok (.aload_n 2, 1) := by decide +kernel
theorem d6_32 : decode jdk_65_method_123_code 32 = .ok (.areturn, 1) := by decide +kernel
theorem pd_0 : parseMethodDescriptor "(II)I" = some ⟨[.int, .int], some .int⟩ := by decide +kernel
theorem pn_1 : plainName "java/util/Arrays" = true := by first | (simp [plainName, overriddenIn]; done) | decide +kernel
theorem ef_rm6 (m : MethodId) (a1 : Addr) (p2 : Int32) : entryFrame m #[(.ref a1), (.int p2)] 3 = mkF m 0 #[.val (.ref a1), .val (.int p2), .unset] [] := by first | (simp [entryFrame, mkF, argsToLocals, Value.category]; done) | rfl
def Q6 (Z : State) (a1 : Addr) (p2 : Int32) (k : ClassId) (z : Int32) (vs : List Value) (h0 : Heap) (n0 : Nat) (v : Option Value) (h : Heap) (L : List Loc) : Prop := ∃ b k', v = some (.ref b) ∧ Fr n0 L ∧ Keep h0 h [] ∧ Arv Z h b k' .int p2 vs (.int (0 : Int32)) ∧ Exa Z h b "[I" ∧ n0 ≤ b ∧ h0.size ≤ b
set_option maxRecDepth 65536 in
set_option maxHeartbeats 40000000 in
theorem rm6 (l : Launch) (Z : State) (a0 : Array Value) (hw : ∀ d ∈ tables_1, d.before a0 Z = true) (ws : List Jvm.Cond) (a1 : Addr) (p2 : Int32) (k : ClassId) (z : Int32) (vs : List Value) (h0 : Heap) (n0 : Nat) (Z0 : n0 ≤ h0.size) (V_a1 : Arv Z h0 a1 k .int z vs (.int (0 : Int32))) (hp : ¬ p2 < 0) (hcap : p2.toNatClampNeg ≤ 8) (hvs : vs.length ≤ z.toNatClampNeg) (hz0 : ¬ z < 0) (hvp : vs.length ≤ p2.toNatClampNeg) (hne : ¬ p2 = z) :
    MetFree l (⟨"java/util/Arrays", "copyOf", "([II)[I"⟩ : MethodName) (head1 (Jvm.Cond.code (⟨"java/util/Arrays", "copyOf", "([II)[I"⟩ : MethodName) jdk_65_method_123_code 3 (some (.array .int)) :: ws) ({ frames := 1, cells := 1, slots := 8, locals := 18 } : Room)) (fun a U => a = #[(.ref a1), (.int p2)] ∧ Z.Warmed39 U.vm ∧ U.heap = h0) (fun _ _ _ _ _ => True) (fun _ U o U' => ∃ v L, o = .returned v ∧ Q6 Z a1 p2 k z vs h0 n0 v U'.heap L ∧ FrameEnd U o U' L ({ frames := 1, cells := 1, slots := 8, locals := 18 } : Room).cells ({ frames := 1, cells := 1, slots := 8, locals := 18 } : Room).slots) := by
  refine MetFree.of_bodySF (plainFor_of_name pn_1) hisR ?_
  intro p e s m args below meth c s₁ Bd hml0 hP hK
  obtain ⟨rfl, hZ, hh⟩ := hP
  have hx := Bd.exec
  have hby := Bd.bytes
  have hml : c.maxLocals = 3 := hml0
  have hown : s.vm.findClass "java/util/Arrays" = some m.cls := findClass_of_methodNamed Bd.named
  have hnm := (name_of_methodNamed Bd.named Bd.method).1
  have X0 : Stand p l e ({ frames := 1, cells := 1, slots := 8, locals := 18 } : Room) s m #[(.ref a1), (.int p2)] below meth c s₁ [] 0 0 := Stand.of_body Bd
  have e0 : s₁.heap = h0 := by rw [← hh, Bd.state]; rfl
  have N0 := Fr.nil n0
  show Goes p e s below (fun v h L => Q6 Z a1 p2 k z vs h0 n0 v h L) ({ frames := 1, cells := 1, slots := 8, locals := 18 } : Room).cells ({ frames := 1, cells := 1, slots := 8, locals := 18 } : Room).slots (s₁.setTop (entryFrame m #[(.ref a1), (.int p2)] 3))
  refine Goes.st (U' := s₁.setTop (mkF m 0 #[.val (.ref a1), .val (.int p2), .unset] [])) (fun t k => castTop (ef_rm6 m a1 p2) k) ?_
  refine Goes.st (U' := s₁.setTop (mkF m 1 #[.val (.ref a1), .val (.int p2), .unset] [(.int p2)])) (fun t k => XS.iloadN X0.here hx rfl (hb hby d6_0) rfl k) ?_
  refine Goes.st (U' := s₁.setTop (mkF m 2 #[.val (.ref a1), .val (.int p2), .unset] [(.ref a1), (.int p2)])) (fun t k => XS.aloadN X0.here hx rfl (hb hby d6_1) rfl rfl k) ?_
  have Vx1 := V_a1
  obtain ⟨cl1, Ar1, -, S1, Nn1, -, -⟩ := Vx1
  refine Goes.st (U' := s₁.setTop (mkF m 3 #[.val (.ref a1), .val (.int p2), .unset] [(.int z), (.int p2)])) (fun t k => (X0.arraylength hx (by rw [e0]; exact Ar1.1) (State.isArrayOf_alike hZ.alike Ar1.2.1) (g := (mkF m 2 #[.val (.ref a1), .val (.int p2), .unset] [(.ref a1), (.int p2)])) rfl rfl (hb hby d6_2) t (by rw [len_of S1 Nn1]; exact k))) ?_
  refine Goes.st (U' := s₁.setTop (mkF m 14 #[.val (.ref a1), .val (.int p2), .unset] [])) (fun t k => XS.icmpYes X0.here hx rfl (pc0 := 3) (pc' := 14) rfl (hb hby d6_3) rfl (feq (hne : ¬ (p2 = z))).2 (by decide) (by decide) k) ?_
  refine Goes.st (U' := s₁.setTop (mkF m 15 #[.val (.ref a1), .val (.int p2), .unset] [(.int p2)])) (fun t k => XS.iloadN X0.here hx rfl (hb hby d6_14) rfl k) ?_
  obtain ⟨T2, h2, k2, X2, e2, E2, A2, Ea2, st2⟩ := newPE X0 hx hZ (hw _ (List.mem_of_getElem? (i := 10) rfl)) e0 (g := (mkF m 15 #[.val (.ref a1), .val (.int p2), .unset] [(.int p2)])) rfl (hb hby d6_15) rfl hp (cap := 8) hcap (by decide) (by decide) (by decide) (ad := "[I") rfl
  obtain ⟨b2, g2⟩ : ∃ z, z = h0.size := ⟨_, rfl⟩
  rw [← g2] at A2 Ea2 st2
  have ne_a1_b2 : a1 ≠ b2 := Nat.ne_of_lt (Nat.lt_of_lt_of_le V_a1.lt (Nat.le_of_eq g2.symm))
  have g_b2 : n0 ≤ b2 := Nat.le_trans Z0 (Nat.le_of_eq g2.symm)
  have sz_b2 : h0.size ≤ b2 := Nat.le_trans (Keep.refl h0 []).1 (Nat.le_of_eq g2.symm)
  have K_3 : Keep h0 h2 [] := (Keep.refl h0 []).ext E2
  have V_b2 : Arv Z h2 b2 k2 .int p2 [] (.int (0 : Int32)) := Arv.new A2 hp
  refine Goes.st (U' := T2.setTop (mkF m 17 #[.val (.ref a1), .val (.int p2), .unset] [(.ref b2)])) (fun t k => st2 t k) ?_
  refine Goes.st (U' := T2.setTop (mkF m 18 #[.val (.ref a1), .val (.int p2), .val (.ref b2)] [])) (fun t k => XS.astoreN X2.here hx rfl (hb hby d6_17) rfl rfl (l' := #[.val (.ref a1), .val (.int p2), .val (.ref b2)]) rfl k) ?_
  refine Goes.st (U' := T2.setTop (mkF m 19 #[.val (.ref a1), .val (.int p2), .val (.ref b2)] [(.ref a1)])) (fun t k => XS.aloadN X2.here hx rfl (hb hby d6_18) rfl rfl k) ?_
  refine Goes.st (U' := T2.setTop (mkF m 20 #[.val (.ref a1), .val (.int p2), .val (.ref b2)] [(.int (0 : Int32)), (.ref a1)])) (fun t k => XS.iconst X2.here hx rfl (hb hby d6_19) k) ?_
  refine Goes.st (U' := T2.setTop (mkF m 21 #[.val (.ref a1), .val (.int p2), .val (.ref b2)] [(.ref b2), (.int (0 : Int32)), (.ref a1)])) (fun t k => XS.aloadN X2.here hx rfl (hb hby d6_20) rfl rfl k) ?_
  refine Goes.st (U' := T2.setTop (mkF m 22 #[.val (.ref a1), .val (.int p2), .val (.ref b2)] [(.int (0 : Int32)), (.ref b2), (.int (0 : Int32)), (.ref a1)])) (fun t k => XS.iconst X2.here hx rfl (hb hby d6_21) k) ?_
  refine Goes.st (U' := T2.setTop (mkF m 23 #[.val (.ref a1), .val (.int p2), .val (.ref b2)] [(.ref a1), (.int (0 : Int32)), (.ref b2), (.int (0 : Int32)), (.ref a1)])) (fun t k => XS.aloadN X2.here hx rfl (hb hby d6_22) rfl rfl k) ?_
  have Vx4 := (V_a1.ext E2)
  obtain ⟨cl4, Ar4, -, S4, Nn4, -, -⟩ := Vx4
  refine Goes.st (U' := T2.setTop (mkF m 24 #[.val (.ref a1), .val (.int p2), .val (.ref b2)] [(.int z), (.int (0 : Int32)), (.ref b2), (.int (0 : Int32)), (.ref a1)])) (fun t k => (X2.arraylength hx (by rw [e2]; exact Ar4.1) (State.isArrayOf_alike hZ.alike Ar4.2.1) (g := (mkF m 23 #[.val (.ref a1), .val (.int p2), .val (.ref b2)] [(.ref a1), (.int (0 : Int32)), (.ref b2), (.int (0 : Int32)), (.ref a1)])) rfl rfl (hb hby d6_23) t (by rw [len_of S4 Nn4]; exact k))) ?_
  refine Goes.st (U' := T2.setTop (mkF m 25 #[.val (.ref a1), .val (.int p2), .val (.ref b2)] [(.int p2), (.int z), (.int (0 : Int32)), (.ref b2), (.int (0 : Int32)), (.ref a1)])) (fun t k => XS.iloadN X2.here hx rfl (hb hby d6_24) rfl k) ?_
  obtain ⟨_, _, ⟨T5, L5, k5, n5⟩, -, X5, ⟨Lc5, hQ5, l5, y5, z5⟩, st5⟩ := Jvm.LawKit.callS X2 hx (y := (⟨"java/lang/Math", "min", "(II)I"⟩ : MethodName)) hown (mvT hZ (hw _ (List.mem_of_getElem? (i := 34) rfl))) (mvT hZ (hw _ (List.mem_of_getElem? (i := 35) rfl))) (mvT hZ (hw _ (List.mem_of_getElem? (i := 24) rfl))) (mvT hZ (hw _ (List.mem_of_getElem? (i := 36) rfl))) (by decide) (backOf (W := 4) (rm7 l Z a0 hw [] z p2 h2 n0 (Nat.le_trans Z0 E2.1)) hZ (hw _ (List.mem_of_getElem? (i := 36) rfl)) (hw _ (List.mem_of_getElem? (i := 24) rfl)) (by decide) (by decide)) (g := (mkF m 25 #[.val (.ref a1), .val (.int p2), .val (.ref b2)] [(.int p2), (.int z), (.int (0 : Int32)), (.ref b2), (.int (0 : Int32)), (.ref a1)])) rfl (by rw [hml]; rfl) (argsL := [(.int z), (.int p2)]) (rest := [(.int (0 : Int32)), (.ref b2), (.int (0 : Int32)), (.ref a1)]) (lenOf pd_0 rfl) rfl (by show 2 * 0 + _ ≤ _; exact Nat.le_of_eq rfl) (hb hby d6_25) (fun _ _ => ⟨rfl, e2, (by decide : 1 + 0 ≤ _), (by decide : 8 + 0 ≤ _)⟩)
  dsimp only [Pt.U, Pt.locs, Pt.cells, Pt.slots] at X5 l5 y5 z5 st5 hQ5
  subst l5 y5 z5
  obtain ⟨rfl, N5q, e5⟩ := hQ5
  have N5 := Fr.app N0 N5q
  refine Goes.st (U' := T5.setTop (mkF m 28 #[.val (.ref a1), .val (.int p2), .val (.ref b2)] [(.int (fn7 z p2)), (.int (0 : Int32)), (.ref b2), (.int (0 : Int32)), (.ref a1)])) st5 ?_
  obtain ⟨m0, m1, m2, m3⟩ := own_min z p2 hz0 hp
  have Vp : Arv Z h2 b2 k2 .int p2 ([] ++ List.replicate (fn7 z p2).toNatClampNeg (.int (0 : Int32))) (.int (0 : Int32)) := V_b2.pad (pad_rep [] _ _)
  obtain ⟨T6, h6, L6, X6, e6, N6, K6, V6x, st6⟩ := cpA X5 hx hZ hown (hw _ (List.mem_of_getElem? (i := 37) rfl)) (hw _ (List.mem_of_getElem? (i := 40) rfl)) (hw _ (List.mem_of_getElem? (i := 38) rfl)) (hw _ (List.mem_of_getElem? (i := 39) rfl)) e5 (sp := (0 : Int32)) (dp := (0 : Int32)) (nn := (fn7 z p2)) (V_a1.ext E2) Vp (Or.inl ⟨rfl, rfl⟩) (by decide) (by decide) m0 (Nat.le_trans (Nat.le_of_eq (Nat.zero_add _)) m1) (Nat.le_trans (Nat.le_of_eq (Nat.zero_add _)) m2) rfl (by rw [List.nil_append, List.length_replicate]; exact Nat.le_of_eq (Nat.zero_add _)) N5 g_b2 (g := (mkF m 28 #[.val (.ref a1), .val (.int p2), .val (.ref b2)] [(.int (fn7 z p2)), (.int (0 : Int32)), (.ref b2), (.int (0 : Int32)), (.ref a1)])) rfl (by rw [hml]; rfl) rfl (hb hby d6_28) (by decide) (W := 0) (by show 2 * 0 + _ ≤ _; exact Nat.le_of_eq rfl) (by decide)
  have K_7 : Keep h0 h6 [] := K_3.trans K6 (allS (Or.inr sz_b2) all0)
  have V6 : Arv Z h6 b2 k2 .int p2 vs (.int (0 : Int32)) := V6x.pad (own_copy vs _ _ _ (by rcases m3 with q | q <;> rw [q] <;> assumption) (by rw [List.nil_append, List.length_replicate]))
  refine Goes.st (U' := T6.setTop (mkF m 31 #[.val (.ref a1), .val (.int p2), .val (.ref b2)] [])) (fun t k => st6 t k) ?_
  refine Goes.st (U' := T6.setTop (mkF m 32 #[.val (.ref a1), .val (.int p2), .val (.ref b2)] [(.ref b2)])) (fun t k => XS.aloadN X6.here hx rfl (hb hby d6_31) rfl rfl k) ?_
  refine Goes.retA X6 hx (BodyLoose.notSynchronized Bd) Bd.returns (hb hby d6_32) rfl rfl rfl (by decide) (by decide) ?_
  show Q6 Z a1 p2 k z vs h0 n0 _ T6.heap _
  rw [e6]
  exact ⟨b2, k2, rfl, N6, K_7, V6, (Ea2.keep K6), g_b2, sz_b2⟩
theorem d3_0 : decode prog_18_method_2_code 0 = .ok (.aload_n 0, 1) := by decide +kernel
theorem d3_1 : decode prog_18_method_2_code 1 = .ok (.getfield 15, 3) := by decide +kernel
theorem d3_4 : decode prog_18_method_2_code 4 = .ok (.aload_n 0, 1) := by decide +kernel
theorem d3_5 : decode prog_18_method_2_code 5 = .ok (.getfield 9, 3) := by decide +kernel
theorem d3_8 : decode prog_18_method_2_code 8 = .ok (.arraylength, 1) := by decide +kernel
theorem d3_9 : decode prog_18_method_2_code 9 = .ok (.if_icmp .ne 38, 3) := by decide +kernel
theorem d3_12 : decode prog_18_method_2_code 12 = .ok (.ldc2_w 19, 3) := by decide +kernel
theorem d3_15 : decode prog_18_method_2_code 15 = .ok (.ldc2_w 21, 3) := by decide +kernel
theorem d3_18 : decode prog_18_method_2_code 18 = .ok (.aload_n 0, 1) := by decide +kernel
theorem d3_19 : decode prog_18_method_2_code 19 = .ok (.getfield 15, 3) := by decide +kernel
theorem d3_22 : decode prog_18_method_2_code 22 = .ok (.i2l, 1) := by decide +kernel
theorem d3_23 : decode prog_18_method_2_code 23 = .ok (.lmul, 1) := by decide +kernel
theorem d3_24 : decode prog_18_method_2_code 24 = .ok (.invokestatic 23, 3) := by decide +kernel
theorem d3_27 : decode prog_18_method_2_code 27 = .ok (.lstore_n 2, 1) := by decide +kernel
theorem d3_28 : decode prog_18_method_2_code 28 = .ok (.aload_n 0, 1) := by decide +kernel
theorem d3_29 : decode prog_18_method_2_code 29 = .ok (.aload_n 0, 1) := by decide +kernel
theorem d3_30 : decode prog_18_method_2_code 30 = .ok (.getfield 9, 3) := by decide +kernel
theorem d3_33 : decode prog_18_method_2_code 33 = .ok (.lload_n 2, 1) := by decide +kernel
theorem d3_34 : decode prog_18_method_2_code 34 = .ok (.ldc2_w 29, 3) := by decide +kernel
theorem d3_37 : decode prog_18_method_2_code 37 = .ok (.invokestatic 31, 3) := by decide +kernel
theorem d3_40 : decode prog_18_method_2_code 40 = .ok (.l2i, 1) := by decide +kernel
theorem d3_41 : decode prog_18_method_2_code 41 = .ok (.invokestatic 34, 3) := by decide +kernel
theorem d3_44 : decode prog_18_method_2_code 44 = .ok (.putfield 9, 3) := by decide +kernel
theorem d3_47 : decode prog_18_method_2_code 47 = .ok (.aload_n 0, 1) := by decide +kernel
theorem d3_48 : decode prog_18_method_2_code 48 = .ok (.getfield 9, 3) := by decide +kernel
theorem d3_51 : decode prog_18_method_2_code 51 = .ok (.aload_n 0, 1) := by decide +kernel
theorem d3_52 : decode prog_18_method_2_code 52 = .ok (.getfield 15, 3) := by decide +kernel
theorem d3_55 : decode prog_18_method_2_code 55 = .ok (.iload_n 1, 1) := by decide +kernel
theorem d3_56 : decode prog_18_method_2_code 56 = .ok (.iastore, 1) := by decide +kernel
theorem d3_57 : decode prog_18_method_2_code 57 = .ok (.aload_n 0, 1) := by decide +kernel
theorem d3_58 : decode prog_18_method_2_code 58 = .ok (.dup, 1) := by decide +kernel
theorem d3_59 : decode prog_18_method_2_code 59 = .ok (.getfield 15, 3) := by decide +kernel
theorem d3_62 : decode prog_18_method_2_code 62 = .ok (.iconst 1, 1) := by decide +kernel
theorem d3_63 : decode prog_18_method_2_code 63 = .ok (.iadd, 1) := by decide +kernel
theorem d3_64 : decode prog_18_method_2_code 64 = .ok (.putfield 15, 3) := by decide +kernel
theorem d3_67 : decode prog_18_method_2_code 67 = .ok (.return_, 1) := by decide +kernel
theorem pd_1 : parseMethodDescriptor "(JJ)J" = some ⟨[.long, .long], some .long⟩ := by decide +kernel
theorem pd_2 : parseMethodDescriptor "([II)[I" = some ⟨[(.array .int), .int], some (.array .int)⟩ := by decide +kernel
theorem ef_rm3 (m : MethodId) (a1 : Addr) (p2 : Int32) : entryFrame m #[(.ref a1), (.int p2)] 4 = mkF m 0 #[.val (.ref a1), .val (.int p2), .unset, .unset] [] := by first | (simp [entryFrame, mkF, argsToLocals, Value.category]; done) | rfl
def Q3 (Z : State) (a1 : Addr) (p2 : Int32) (arr : Addr) (k : ClassId) (z : Int32) (xs : List Int32) (h0 : Heap) (n0 : Nat) (v : Option Value) (h : Heap) (L : List Loc) : Prop := v = none ∧ Fr n0 L ∧ Keep h0 h [a1, arr] ∧ ∃ arr' k' z', IL Z h a1 arr' k' z' (xs ++ [p2]) ∧ n0 ≤ arr' ∧ (arr' = arr ∨ h0.size ≤ arr')
set_option maxRecDepth 65536 in
set_option maxHeartbeats 40000000 in
theorem rm3 (l : Launch) (Z : State) (a0 : Array Value) (hw : ∀ d ∈ tables_1, d.before a0 Z = true) (ws : List Jvm.Cond) (a1 : Addr) (p2 : Int32) (arr : Addr) (k : ClassId) (z : Int32) (xs : List Int32) (h0 : Heap) (n0 : Nat) (Z0 : n0 ≤ h0.size) (I : IL Z h0 a1 arr k z xs) (hlen : xs.length ≤ 3) (g_a1 : n0 ≤ a1) (g_arr : n0 ≤ arr) :
    MetFree l (⟨"com/example/cosine/cosine/index/IntList", "add", "(I)V"⟩ : MethodName) (head1 (Jvm.Cond.code (⟨"com/example/cosine/cosine/index/IntList", "add", "(I)V"⟩ : MethodName) prog_18_method_2_code 4 none :: ws) ({ frames := 2, cells := 1, slots := 8, locals := 33 } : Room)) (fun a U => a = #[(.ref a1), (.int p2)] ∧ Z.Warmed39 U.vm ∧ U.heap = h0) (fun _ _ _ _ _ => True) (fun _ U o U' => ∃ v L, o = .returned v ∧ Q3 Z a1 p2 arr k z xs h0 n0 v U'.heap L ∧ FrameEnd U o U' L ({ frames := 2, cells := 1, slots := 8, locals := 33 } : Room).cells ({ frames := 2, cells := 1, slots := 8, locals := 33 } : Room).slots) := by
  refine MetFree.of_bodySF (plainFor_of_name pn_0) hisR ?_
  intro p e s m args below meth c s₁ Bd hml0 hP hK
  obtain ⟨rfl, hZ, hh⟩ := hP
  have hx := Bd.exec
  have hby := Bd.bytes
  have hml : c.maxLocals = 4 := hml0
  have hown : s.vm.findClass "com/example/cosine/cosine/index/IntList" = some m.cls := findClass_of_methodNamed Bd.named
  have hnm := (name_of_methodNamed Bd.named Bd.method).1
  have X0 : Stand p l e ({ frames := 2, cells := 1, slots := 8, locals := 33 } : Room) s m #[(.ref a1), (.int p2)] below meth c s₁ [] 0 0 := Stand.of_body Bd
  have e0 : s₁.heap = h0 := by rw [← hh, Bd.state]; rfl
  have N0 := Fr.nil n0
  show Goes p e s below (fun v h L => Q3 Z a1 p2 arr k z xs h0 n0 v h L) ({ frames := 2, cells := 1, slots := 8, locals := 33 } : Room).cells ({ frames := 2, cells := 1, slots := 8, locals := 33 } : Room).slots (s₁.setTop (entryFrame m #[(.ref a1), (.int p2)] 4))
  refine Goes.st (U' := s₁.setTop (mkF m 0 #[.val (.ref a1), .val (.int p2), .unset, .unset] [])) (fun t k => castTop (ef_rm3 m a1 p2) k) ?_
  obtain ⟨E_a1, F_size_a1, F_values_a1, V_arr, E_arr, hle_a1, hz8_a1, hz0_a1, ne_a1_arr⟩ := I
  refine Goes.st (U' := s₁.setTop (mkF m 1 #[.val (.ref a1), .val (.int p2), .unset, .unset] [(.ref a1)])) (fun t k => XS.aloadN X0.here hx rfl (hb hby d3_0) rfl rfl k) ?_
  obtain ⟨T1, X1, e1, st1⟩ := getF X0 hx hZ hown (host := "") (Or.inl (hw _ (List.mem_of_getElem? (i := 18) rfl))) Via.refl e0 F_size_a1 (g := (mkF m 1 #[.val (.ref a1), .val (.int p2), .unset, .unset] [(.ref a1)])) rfl rfl (hb hby d3_1)
  refine Goes.st (U' := T1.setTop (mkF m 4 #[.val (.ref a1), .val (.int p2), .unset, .unset] [(.int (xs.length.toInt32))])) (fun t k => st1 t k) ?_
  refine Goes.st (U' := T1.setTop (mkF m 5 #[.val (.ref a1), .val (.int p2), .unset, .unset] [(.ref a1), (.int (xs.length.toInt32))])) (fun t k => XS.aloadN X1.here hx rfl (hb hby d3_4) rfl rfl k) ?_
  obtain ⟨T2, X2, e2, st2⟩ := getF X1 hx hZ hown (host := "") (Or.inl (hw _ (List.mem_of_getElem? (i := 11) rfl))) Via.refl e1 F_values_a1 (g := (mkF m 5 #[.val (.ref a1), .val (.int p2), .unset, .unset] [(.ref a1), (.int (xs.length.toInt32))])) rfl rfl (hb hby d3_5)
  refine Goes.st (U' := T2.setTop (mkF m 8 #[.val (.ref a1), .val (.int p2), .unset, .unset] [(.ref arr), (.int (xs.length.toInt32))])) (fun t k => st2 t k) ?_
  have Vx3 := V_arr
  obtain ⟨cl3, Ar3, -, S3, Nn3, -, -⟩ := Vx3
  refine Goes.st (U' := T2.setTop (mkF m 9 #[.val (.ref a1), .val (.int p2), .unset, .unset] [(.int z), (.int (xs.length.toInt32))])) (fun t k => (X2.arraylength hx (by rw [e2]; exact Ar3.1) (State.isArrayOf_alike hZ.alike Ar3.2.1) (g := (mkF m 8 #[.val (.ref a1), .val (.int p2), .unset, .unset] [(.ref arr), (.int (xs.length.toInt32))])) rfl rfl (hb hby d3_8) t (by rw [len_of S3 Nn3]; exact k))) ?_
  rcases Decidable.em ((xs.length.toInt32) = z) with hc9 | hc9
  · refine Goes.st (U' := T2.setTop (mkF m 12 #[.val (.ref a1), .val (.int p2), .unset, .unset] [])) (fun t k => XS.icmpNo X2.here hx rfl (hb hby d3_9) rfl (teq hc9).2 k) ?_
    refine Goes.st (U' := T2.setTop (mkF m 15 #[.val (.ref a1), .val (.int p2), .unset, .unset] [(.long (4 : Int64))])) (fun t k => X2.ldc2Long hx hown (mvT hZ (hw _ (List.mem_of_getElem? (i := 20) rfl))) (g := (mkF m 12 #[.val (.ref a1), .val (.int p2), .unset, .unset] [])) rfl (hb hby d3_12) t k) ?_
    refine Goes.st (U' := T2.setTop (mkF m 18 #[.val (.ref a1), .val (.int p2), .unset, .unset] [(.long (2 : Int64)), (.long (4 : Int64))])) (fun t k => X2.ldc2Long hx hown (mvT hZ (hw _ (List.mem_of_getElem? (i := 21) rfl))) (g := (mkF m 15 #[.val (.ref a1), .val (.int p2), .unset, .unset] [(.long (4 : Int64))])) rfl (hb hby d3_15) t k) ?_
    refine Goes.st (U' := T2.setTop (mkF m 19 #[.val (.ref a1), .val (.int p2), .unset, .unset] [(.ref a1), (.long (2 : Int64)), (.long (4 : Int64))])) (fun t k => XS.aloadN X2.here hx rfl (hb hby d3_18) rfl rfl k) ?_
    obtain ⟨T4, X4, e4, st4⟩ := getF X2 hx hZ hown (host := "") (Or.inl (hw _ (List.mem_of_getElem? (i := 18) rfl))) Via.refl e2 F_size_a1 (g := (mkF m 19 #[.val (.ref a1), .val (.int p2), .unset, .unset] [(.ref a1), (.long (2 : Int64)), (.long (4 : Int64))])) rfl rfl (hb hby d3_19)
    refine Goes.st (U' := T4.setTop (mkF m 22 #[.val (.ref a1), .val (.int p2), .unset, .unset] [(.int (xs.length.toInt32)), (.long (2 : Int64)), (.long (4 : Int64))])) (fun t k => st4 t k) ?_
    refine Goes.st (U' := T4.setTop (mkF m 23 #[.val (.ref a1), .val (.int p2), .unset, .unset] [(.long ((xs.length.toInt32).toInt64)), (.long (2 : Int64)), (.long (4 : Int64))])) (fun t k => XS.i2l X4.here hx rfl (hb hby d3_22) rfl k) ?_
    refine Goes.st (U' := T4.setTop (mkF m 24 #[.val (.ref a1), .val (.int p2), .unset, .unset] [(.long ((2 : Int64) * ((xs.length.toInt32).toInt64))), (.long (4 : Int64))])) (fun t k => XS.lmul X4.here hx rfl (hb hby d3_23) rfl k) ?_
    obtain ⟨_, _, ⟨T5, L5, k5, n5⟩, -, X5, ⟨Lc5, hQ5, l5, y5, z5⟩, st5⟩ := Jvm.LawKit.callS X4 hx (y := (⟨"java/lang/Math", "max", "(JJ)J"⟩ : MethodName)) hown (mvT hZ (hw _ (List.mem_of_getElem? (i := 22) rfl))) (mvT hZ (hw _ (List.mem_of_getElem? (i := 23) rfl))) (mvT hZ (hw _ (List.mem_of_getElem? (i := 24) rfl))) (mvT hZ (hw _ (List.mem_of_getElem? (i := 25) rfl))) (by decide) (backOf (W := 0) (rm4 l Z a0 hw [] (4 : Int64) ((2 : Int64) * ((xs.length.toInt32).toInt64)) h0 n0 Z0) hZ (hw _ (List.mem_of_getElem? (i := 25) rfl)) (hw _ (List.mem_of_getElem? (i := 24) rfl)) (by decide) (by decide)) (g := (mkF m 24 #[.val (.ref a1), .val (.int p2), .unset, .unset] [(.long ((2 : Int64) * ((xs.length.toInt32).toInt64))), (.long (4 : Int64))])) rfl (by rw [hml]; rfl) (argsL := [(.long (4 : Int64)), (.long ((2 : Int64) * ((xs.length.toInt32).toInt64)))]) (rest := []) (lenOf pd_1 rfl) rfl (by show 2 * 0 + _ ≤ _; exact Nat.le_of_eq rfl) (hb hby d3_24) (fun _ _ => ⟨rfl, e4, (by decide : 0 + 0 ≤ _), (by decide : 0 + 0 ≤ _)⟩)
    dsimp only [Pt.U, Pt.locs, Pt.cells, Pt.slots] at X5 l5 y5 z5 st5 hQ5
    subst l5 y5 z5
    obtain ⟨rfl, N5q, e5⟩ := hQ5
    have N5 := Fr.app N0 N5q
    refine Goes.st (U' := T5.setTop (mkF m 27 #[.val (.ref a1), .val (.int p2), .unset, .unset] [(.long (fn4 (4 : Int64) ((2 : Int64) * ((xs.length.toInt32).toInt64))))])) st5 ?_
    refine Goes.st (U' := T5.setTop (mkF m 28 #[.val (.ref a1), .val (.int p2), .val (.long (fn4 (4 : Int64) ((2 : Int64) * ((xs.length.toInt32).toInt64)))), .second] [])) (fun t k => XS.lstoreN X5.here hx rfl (hb hby d3_27) rfl (l' := #[.val (.ref a1), .val (.int p2), .val (.long (fn4 (4 : Int64) ((2 : Int64) * ((xs.length.toInt32).toInt64)))), .second]) rfl k) ?_
    refine Goes.st (U' := T5.setTop (mkF m 29 #[.val (.ref a1), .val (.int p2), .val (.long (fn4 (4 : Int64) ((2 : Int64) * ((xs.length.toInt32).toInt64)))), .second] [(.ref a1)])) (fun t k => XS.aloadN X5.here hx rfl (hb hby d3_28) rfl rfl k) ?_
    refine Goes.st (U' := T5.setTop (mkF m 30 #[.val (.ref a1), .val (.int p2), .val (.long (fn4 (4 : Int64) ((2 : Int64) * ((xs.length.toInt32).toInt64)))), .second] [(.ref a1), (.ref a1)])) (fun t k => XS.aloadN X5.here hx rfl (hb hby d3_29) rfl rfl k) ?_
    obtain ⟨T6, X6, e6, st6⟩ := getF X5 hx hZ hown (host := "") (Or.inl (hw _ (List.mem_of_getElem? (i := 11) rfl))) Via.refl e5 F_values_a1 (g := (mkF m 30 #[.val (.ref a1), .val (.int p2), .val (.long (fn4 (4 : Int64) ((2 : Int64) * ((xs.length.toInt32).toInt64)))), .second] [(.ref a1), (.ref a1)])) rfl rfl (hb hby d3_30)
    refine Goes.st (U' := T6.setTop (mkF m 33 #[.val (.ref a1), .val (.int p2), .val (.long (fn4 (4 : Int64) ((2 : Int64) * ((xs.length.toInt32).toInt64)))), .second] [(.ref arr), (.ref a1)])) (fun t k => st6 t k) ?_
    refine Goes.st (U' := T6.setTop (mkF m 34 #[.val (.ref a1), .val (.int p2), .val (.long (fn4 (4 : Int64) ((2 : Int64) * ((xs.length.toInt32).toInt64)))), .second] [(.long (fn4 (4 : Int64) ((2 : Int64) * ((xs.length.toInt32).toInt64)))), (.ref arr), (.ref a1)])) (fun t k => XS.lloadN X6.here hx rfl (hb hby d3_33) rfl k) ?_
    refine Goes.st (U' := T6.setTop (mkF m 37 #[.val (.ref a1), .val (.int p2), .val (.long (fn4 (4 : Int64) ((2 : Int64) * ((xs.length.toInt32).toInt64)))), .second] [(.long (2147483639 : Int64)), (.long (fn4 (4 : Int64) ((2 : Int64) * ((xs.length.toInt32).toInt64)))), (.ref arr), (.ref a1)])) (fun t k => X6.ldc2Long hx hown (mvT hZ (hw _ (List.mem_of_getElem? (i := 26) rfl))) (g := (mkF m 34 #[.val (.ref a1), .val (.int p2), .val (.long (fn4 (4 : Int64) ((2 : Int64) * ((xs.length.toInt32).toInt64)))), .second] [(.long (fn4 (4 : Int64) ((2 : Int64) * ((xs.length.toInt32).toInt64)))), (.ref arr), (.ref a1)])) rfl (hb hby d3_34) t k) ?_
    obtain ⟨_, _, ⟨T7, L7, k7, n7⟩, -, X7, ⟨Lc7, hQ7, l7, y7, z7⟩, st7⟩ := Jvm.LawKit.callS X6 hx (y := (⟨"java/lang/Math", "min", "(JJ)J"⟩ : MethodName)) hown (mvT hZ (hw _ (List.mem_of_getElem? (i := 27) rfl))) (mvT hZ (hw _ (List.mem_of_getElem? (i := 28) rfl))) (mvT hZ (hw _ (List.mem_of_getElem? (i := 24) rfl))) (mvT hZ (hw _ (List.mem_of_getElem? (i := 29) rfl))) (by decide) (backOf (W := 2) (rm5 l Z a0 hw [] (fn4 (4 : Int64) ((2 : Int64) * ((xs.length.toInt32).toInt64))) (2147483639 : Int64) h0 n0 Z0) hZ (hw _ (List.mem_of_getElem? (i := 29) rfl)) (hw _ (List.mem_of_getElem? (i := 24) rfl)) (by decide) (by decide)) (g := (mkF m 37 #[.val (.ref a1), .val (.int p2), .val (.long (fn4 (4 : Int64) ((2 : Int64) * ((xs.length.toInt32).toInt64)))), .second] [(.long (2147483639 : Int64)), (.long (fn4 (4 : Int64) ((2 : Int64) * ((xs.length.toInt32).toInt64)))), (.ref arr), (.ref a1)])) rfl (by rw [hml]; rfl) (argsL := [(.long (fn4 (4 : Int64) ((2 : Int64) * ((xs.length.toInt32).toInt64)))), (.long (2147483639 : Int64))]) (rest := [(.ref arr), (.ref a1)]) (lenOf pd_1 rfl) rfl (by show 2 * 0 + _ ≤ _; exact Nat.le_of_eq rfl) (hb hby d3_37) (fun _ _ => ⟨rfl, e6, (by decide : 0 + 0 ≤ _), (by decide : 0 + 0 ≤ _)⟩)
    dsimp only [Pt.U, Pt.locs, Pt.cells, Pt.slots] at X7 l7 y7 z7 st7 hQ7
    subst l7 y7 z7
    obtain ⟨rfl, N7q, e7⟩ := hQ7
    have N7 := Fr.app N5 N7q
    refine Goes.st (U' := T7.setTop (mkF m 40 #[.val (.ref a1), .val (.int p2), .val (.long (fn4 (4 : Int64) ((2 : Int64) * ((xs.length.toInt32).toInt64)))), .second] [(.long (fn5 (fn4 (4 : Int64) ((2 : Int64) * ((xs.length.toInt32).toInt64))) (2147483639 : Int64))), (.ref arr), (.ref a1)])) st7 ?_
    refine Goes.st (U' := T7.setTop (mkF m 41 #[.val (.ref a1), .val (.int p2), .val (.long (fn4 (4 : Int64) ((2 : Int64) * ((xs.length.toInt32).toInt64)))), .second] [(.int ((fn5 (fn4 (4 : Int64) ((2 : Int64) * ((xs.length.toInt32).toInt64))) (2147483639 : Int64)).toInt32)), (.ref arr), (.ref a1)])) (fun t k => XS.l2i X7.here hx rfl (hb hby d3_40) rfl k) ?_
    obtain ⟨_, _, ⟨T8, L8, k8, n8⟩, -, X8, ⟨Lc8, hQ8, l8, y8, z8⟩, st8⟩ := Jvm.LawKit.callS X7 hx (y := (⟨"java/util/Arrays", "copyOf", "([II)[I"⟩ : MethodName)) hown (mvT hZ (hw _ (List.mem_of_getElem? (i := 30) rfl))) (mvT hZ (hw _ (List.mem_of_getElem? (i := 31) rfl))) (mvT hZ (hw _ (List.mem_of_getElem? (i := 32) rfl))) (mvT hZ (hw _ (List.mem_of_getElem? (i := 33) rfl))) (by decide) (backOf (W := 1) (rm6 l Z a0 hw [] arr ((fn5 (fn4 (4 : Int64) ((2 : Int64) * ((xs.length.toInt32).toInt64))) (2147483639 : Int64)).toInt32) k z (xs.map .int) h0 n0 Z0 V_arr (own_nc _ hlen).2.1 (own_nc _ hlen).2.2.1 (by rw [List.length_map]; exact hle_a1) hz0_a1 (by rw [List.length_map]; exact Nat.le_of_succ_le (own_nc _ hlen).2.2.2.2) (fun q => (own_nc _ hlen).1 (q.trans hc9.symm))) hZ (hw _ (List.mem_of_getElem? (i := 33) rfl)) (hw _ (List.mem_of_getElem? (i := 32) rfl)) (by decide) (by decide)) (g := (mkF m 41 #[.val (.ref a1), .val (.int p2), .val (.long (fn4 (4 : Int64) ((2 : Int64) * ((xs.length.toInt32).toInt64)))), .second] [(.int ((fn5 (fn4 (4 : Int64) ((2 : Int64) * ((xs.length.toInt32).toInt64))) (2147483639 : Int64)).toInt32)), (.ref arr), (.ref a1)])) rfl (by rw [hml]; rfl) (argsL := [(.ref arr), (.int ((fn5 (fn4 (4 : Int64) ((2 : Int64) * ((xs.length.toInt32).toInt64))) (2147483639 : Int64)).toInt32))]) (rest := [(.ref a1)]) (lenOf pd_2 rfl) rfl (by show 2 * 0 + _ ≤ _; exact Nat.le_of_eq rfl) (hb hby d3_41) (fun _ _ => ⟨rfl, e7, (by decide : 0 + 1 ≤ _), (by decide : 0 + 8 ≤ _)⟩)
    dsimp only [Pt.U, Pt.locs, Pt.cells, Pt.slots] at X8 l8 y8 z8 st8 hQ8
    subst l8 y8 z8
    obtain ⟨nb8, kb8, rfl, N8q, K8, V_nb8, E_nb8, g_nb8, u8⟩ := hQ8
    have N8 := Fr.app N7 N8q
    have ne_a1_nb8 : a1 ≠ nb8 := Nat.ne_of_lt (Nat.lt_of_lt_of_le E_a1.lt u8)
    have ne_arr_nb8 : arr ≠ nb8 := Nat.ne_of_lt (Nat.lt_of_lt_of_le E_arr.lt u8)
    have sz_nb8 : h0.size ≤ nb8 := Nat.le_trans (Keep.refl h0 [a1, arr]).1 u8
    have K_9 : Keep h0 T8.heap [a1, arr] := (Keep.refl h0 [a1, arr]).trans K8 all0
    refine Goes.st (U' := T8.setTop (mkF m 44 #[.val (.ref a1), .val (.int p2), .val (.long (fn4 (4 : Int64) ((2 : Int64) * ((xs.length.toInt32).toInt64)))), .second] [(.ref nb8), (.ref a1)])) st8 ?_
    obtain ⟨T10, h10, X10, e10, W10, st10⟩ := putF X8 hx hZ hown (host := "") (Or.inl (hw _ (List.mem_of_getElem? (i := 11) rfl))) Via.refl rfl (F_values_a1.keep K8 nin0) (E_a1.keep K8) (Or.inl (hw _ (List.mem_of_getElem? (i := 12) rfl))) (hw _ (List.mem_of_getElem? (i := 2) rfl)) (ty := (.array .int)) (by decide) rfl rfl (g := (mkF m 44 #[.val (.ref a1), .val (.int p2), .val (.long (fn4 (4 : Int64) ((2 : Int64) * ((xs.length.toInt32).toInt64)))), .second] [(.ref nb8), (.ref a1)])) rfl rfl (hb hby d3_44)
    have Fw10 := (F_values_a1.keep K8 nin0).same W10
    have N10 := Fr.snoc X10 N8 g_a1
    have K_11 : Keep h0 h10 [a1, arr] := K_9.wr W10 (Or.inl (List.mem_of_getElem? (i := 0) rfl))
    refine Goes.st (U' := T10.setTop (mkF m 47 #[.val (.ref a1), .val (.int p2), .val (.long (fn4 (4 : Int64) ((2 : Int64) * ((xs.length.toInt32).toInt64)))), .second] [])) (fun t k => st10 t k) ?_
    refine Goes.st (U' := T10.setTop (mkF m 48 #[.val (.ref a1), .val (.int p2), .val (.long (fn4 (4 : Int64) ((2 : Int64) * ((xs.length.toInt32).toInt64)))), .second] [(.ref a1)])) (fun t k => XS.aloadN X10.here hx rfl (hb hby d3_47) rfl rfl k) ?_
    obtain ⟨T12, X12, e12, st12⟩ := getF X10 hx hZ hown (host := "") (Or.inl (hw _ (List.mem_of_getElem? (i := 11) rfl))) Via.refl e10 Fw10 (g := (mkF m 48 #[.val (.ref a1), .val (.int p2), .val (.long (fn4 (4 : Int64) ((2 : Int64) * ((xs.length.toInt32).toInt64)))), .second] [(.ref a1)])) rfl rfl (hb hby d3_48)
    refine Goes.st (U' := T12.setTop (mkF m 51 #[.val (.ref a1), .val (.int p2), .val (.long (fn4 (4 : Int64) ((2 : Int64) * ((xs.length.toInt32).toInt64)))), .second] [(.ref nb8)])) (fun t k => st12 t k) ?_
    refine Goes.st (U' := T12.setTop (mkF m 52 #[.val (.ref a1), .val (.int p2), .val (.long (fn4 (4 : Int64) ((2 : Int64) * ((xs.length.toInt32).toInt64)))), .second] [(.ref a1), (.ref nb8)])) (fun t k => XS.aloadN X12.here hx rfl (hb hby d3_51) rfl rfl k) ?_
    obtain ⟨T13, X13, e13, st13⟩ := getF X12 hx hZ hown (host := "") (Or.inl (hw _ (List.mem_of_getElem? (i := 18) rfl))) Via.refl e12 ((F_size_a1.keep K8 nin0).other W10 (Or.inr (slot_ne (Or.inl (hw _ (List.mem_of_getElem? (i := 19) rfl))) (Or.inl (hw _ (List.mem_of_getElem? (i := 12) rfl))) (by decide) (t := .int) (t' := (.array .int)) (by decide) (by decide)))) (g := (mkF m 52 #[.val (.ref a1), .val (.int p2), .val (.long (fn4 (4 : Int64) ((2 : Int64) * ((xs.length.toInt32).toInt64)))), .second] [(.ref a1), (.ref nb8)])) rfl rfl (hb hby d3_52)
    refine Goes.st (U' := T13.setTop (mkF m 55 #[.val (.ref a1), .val (.int p2), .val (.long (fn4 (4 : Int64) ((2 : Int64) * ((xs.length.toInt32).toInt64)))), .second] [(.int (xs.length.toInt32)), (.ref nb8)])) (fun t k => st13 t k) ?_
    refine Goes.st (U' := T13.setTop (mkF m 56 #[.val (.ref a1), .val (.int p2), .val (.long (fn4 (4 : Int64) ((2 : Int64) * ((xs.length.toInt32).toInt64)))), .second] [(.int p2), (.int (xs.length.toInt32)), (.ref nb8)])) (fun t k => XS.iloadN X13.here hx rfl (hb hby d3_55) rfl k) ?_
    have Vx14 := (V_nb8.other W10 (Ne.symm ne_a1_nb8))
    obtain ⟨cl14, Ar14, q14, S14, Nn14, H14, G14⟩ := Vx14
    have hin14 : ¬ ((xs.length.toInt32) < 0 ∨ cl14.slots.size ≤ ((xs.length.toInt32)).toNatClampNeg) := inb_of S14 (own_lt _ _ _ (own_nc _ hlen).2.2.2.2 (own_nat _ hlen).1 (by rw [(own_nat _ hlen).2.1]; exact Nat.lt_succ_self _))
    obtain ⟨T14, h14, X14, e14, W14, st14⟩ := stI X13 hx hZ e13 Ar14 (j := (xs.length.toInt32)) hin14 (g := (mkF m 56 #[.val (.ref a1), .val (.int p2), .val (.long (fn4 (4 : Int64) ((2 : Int64) * ((xs.length.toInt32).toInt64)))), .second] [(.int p2), (.int (xs.length.toInt32)), (.ref nb8)])) rfl rfl (hb hby d3_56)
    have V14 : Arv Z h14 nb8 kb8 .int ((fn5 (fn4 (4 : Int64) ((2 : Int64) * ((xs.length.toInt32).toInt64))) (2147483639 : Int64)).toInt32) ((xs ++ [p2]).map .int) (.int (0 : Int32)) := (by rw [List.map_append]; exact own_push Ar14 q14 S14 Nn14 H14 G14 rfl W14 (by rw [List.length_map]; exact (own_nat _ hlen).2.1))
    have N14 := Fr.snoc X14 N10 g_nb8
    have K_15 : Keep h0 h14 [a1, arr] := K_11.wr W14 (Or.inr sz_nb8)
    refine Goes.st (U' := T14.setTop (mkF m 57 #[.val (.ref a1), .val (.int p2), .val (.long (fn4 (4 : Int64) ((2 : Int64) * ((xs.length.toInt32).toInt64)))), .second] [])) (fun t k => st14 t k) ?_
    refine Goes.st (U' := T14.setTop (mkF m 58 #[.val (.ref a1), .val (.int p2), .val (.long (fn4 (4 : Int64) ((2 : Int64) * ((xs.length.toInt32).toInt64)))), .second] [(.ref a1)])) (fun t k => XS.aloadN X14.here hx rfl (hb hby d3_57) rfl rfl k) ?_
    refine Goes.st (U' := T14.setTop (mkF m 59 #[.val (.ref a1), .val (.int p2), .val (.long (fn4 (4 : Int64) ((2 : Int64) * ((xs.length.toInt32).toInt64)))), .second] [(.ref a1), (.ref a1)])) (fun t k => XS.dup X14.here hx rfl (hb hby d3_58) rfl rfl k) ?_
    obtain ⟨T16, X16, e16, st16⟩ := getF X14 hx hZ hown (host := "") (Or.inl (hw _ (List.mem_of_getElem? (i := 18) rfl))) Via.refl e14 (((F_size_a1.keep K8 nin0).other W10 (Or.inr (slot_ne (Or.inl (hw _ (List.mem_of_getElem? (i := 19) rfl))) (Or.inl (hw _ (List.mem_of_getElem? (i := 12) rfl))) (by decide) (t := .int) (t' := (.array .int)) (by decide) (by decide)))).other W14 (Or.inl ne_a1_nb8)) (g := (mkF m 59 #[.val (.ref a1), .val (.int p2), .val (.long (fn4 (4 : Int64) ((2 : Int64) * ((xs.length.toInt32).toInt64)))), .second] [(.ref a1), (.ref a1)])) rfl rfl (hb hby d3_59)
    refine Goes.st (U' := T16.setTop (mkF m 62 #[.val (.ref a1), .val (.int p2), .val (.long (fn4 (4 : Int64) ((2 : Int64) * ((xs.length.toInt32).toInt64)))), .second] [(.int (xs.length.toInt32)), (.ref a1)])) (fun t k => st16 t k) ?_
    refine Goes.st (U' := T16.setTop (mkF m 63 #[.val (.ref a1), .val (.int p2), .val (.long (fn4 (4 : Int64) ((2 : Int64) * ((xs.length.toInt32).toInt64)))), .second] [(.int (1 : Int32)), (.int (xs.length.toInt32)), (.ref a1)])) (fun t k => XS.iconst X16.here hx rfl (hb hby d3_62) k) ?_
    refine Goes.st (U' := T16.setTop (mkF m 64 #[.val (.ref a1), .val (.int p2), .val (.long (fn4 (4 : Int64) ((2 : Int64) * ((xs.length.toInt32).toInt64)))), .second] [(.int ((xs.length.toInt32) + (1 : Int32))), (.ref a1)])) (fun t k => XS.iadd X16.here hx rfl (hb hby d3_63) rfl k) ?_
    obtain ⟨T17, h17, X17, e17, W17, st17⟩ := putF X16 hx hZ hown (host := "") (Or.inl (hw _ (List.mem_of_getElem? (i := 18) rfl))) Via.refl e16 (((F_size_a1.keep K8 nin0).other W10 (Or.inr (slot_ne (Or.inl (hw _ (List.mem_of_getElem? (i := 19) rfl))) (Or.inl (hw _ (List.mem_of_getElem? (i := 12) rfl))) (by decide) (t := .int) (t' := (.array .int)) (by decide) (by decide)))).other W14 (Or.inl ne_a1_nb8)) (((E_a1.keep K8).wr W10).wr W14) (Or.inl (hw _ (List.mem_of_getElem? (i := 19) rfl))) (hw _ (List.mem_of_getElem? (i := 2) rfl)) (ty := .int) (by decide) rfl rfl (g := (mkF m 64 #[.val (.ref a1), .val (.int p2), .val (.long (fn4 (4 : Int64) ((2 : Int64) * ((xs.length.toInt32).toInt64)))), .second] [(.int ((xs.length.toInt32) + (1 : Int32))), (.ref a1)])) rfl rfl (hb hby d3_64)
    have Fw17 := (((F_size_a1.keep K8 nin0).other W10 (Or.inr (slot_ne (Or.inl (hw _ (List.mem_of_getElem? (i := 19) rfl))) (Or.inl (hw _ (List.mem_of_getElem? (i := 12) rfl))) (by decide) (t := .int) (t' := (.array .int)) (by decide) (by decide)))).other W14 (Or.inl ne_a1_nb8)).same W17
    have N17 := Fr.snoc X17 N14 g_a1
    have K_18 : Keep h0 h17 [a1, arr] := K_15.wr W17 (Or.inl (List.mem_of_getElem? (i := 0) rfl))
    refine Goes.st (U' := T17.setTop (mkF m 67 #[.val (.ref a1), .val (.int p2), .val (.long (fn4 (4 : Int64) ((2 : Int64) * ((xs.length.toInt32).toInt64)))), .second] [])) (fun t k => st17 t k) ?_
    refine Goes.retV X17 hx (BodyLoose.notSynchronized Bd) Bd.returns (hb hby d3_67) (by decide) (by decide) ?_
    show Q3 Z a1 p2 arr k z xs h0 n0 _ T17.heap _
    rw [e17]
    have Fs : Fld Z h17 a1 "com/example/cosine/cosine/index/IntList" "size" "I" (.int (xs ++ [p2]).length.toInt32) := by rw [List.length_append]; show Fld Z h17 a1 "com/example/cosine/cosine/index/IntList" "size" "I" (.int (xs.length + 1).toInt32); rw [(own_nat _ hlen).2.2]; exact Fw17
    exact ⟨rfl, N17, K_18, nb8, kb8, ((fn5 (fn4 (4 : Int64) ((2 : Int64) * ((xs.length.toInt32).toInt64))) (2147483639 : Int64)).toInt32), ⟨((((E_a1.keep K8).wr W10).wr W14).wr W17), Fs, ((Fw10.other W14 (Or.inl ne_a1_nb8)).other W17 (Or.inr (slot_ne (Or.inl (hw _ (List.mem_of_getElem? (i := 12) rfl))) (Or.inl (hw _ (List.mem_of_getElem? (i := 19) rfl))) (by decide) (t := (.array .int)) (t' := .int) (by decide) (by decide)))), (V14.other W17 (Ne.symm ne_a1_nb8)), (((E_nb8.wr W10).wr W14).wr W17), (by rw [List.length_append]; exact (own_nc _ hlen).2.2.2.2), (own_nc _ hlen).2.2.1, (own_nc _ hlen).2.1, ne_a1_nb8⟩, g_nb8, Or.inr sz_nb8⟩
  · refine Goes.st (U' := T2.setTop (mkF m 47 #[.val (.ref a1), .val (.int p2), .unset, .unset] [])) (fun t k => XS.icmpYes X2.here hx rfl (pc0 := 9) (pc' := 47) rfl (hb hby d3_9) rfl (feq hc9).2 (by decide) (by decide) k) ?_
    refine Goes.st (U' := T2.setTop (mkF m 48 #[.val (.ref a1), .val (.int p2), .unset, .unset] [(.ref a1)])) (fun t k => XS.aloadN X2.here hx rfl (hb hby d3_47) rfl rfl k) ?_
    obtain ⟨T19, X19, e19, st19⟩ := getF X2 hx hZ hown (host := "") (Or.inl (hw _ (List.mem_of_getElem? (i := 11) rfl))) Via.refl e2 F_values_a1 (g := (mkF m 48 #[.val (.ref a1), .val (.int p2), .unset, .unset] [(.ref a1)])) rfl rfl (hb hby d3_48)
    refine Goes.st (U' := T19.setTop (mkF m 51 #[.val (.ref a1), .val (.int p2), .unset, .unset] [(.ref arr)])) (fun t k => st19 t k) ?_
    refine Goes.st (U' := T19.setTop (mkF m 52 #[.val (.ref a1), .val (.int p2), .unset, .unset] [(.ref a1), (.ref arr)])) (fun t k => XS.aloadN X19.here hx rfl (hb hby d3_51) rfl rfl k) ?_
    obtain ⟨T20, X20, e20, st20⟩ := getF X19 hx hZ hown (host := "") (Or.inl (hw _ (List.mem_of_getElem? (i := 18) rfl))) Via.refl e19 F_size_a1 (g := (mkF m 52 #[.val (.ref a1), .val (.int p2), .unset, .unset] [(.ref a1), (.ref arr)])) rfl rfl (hb hby d3_52)
    refine Goes.st (U' := T20.setTop (mkF m 55 #[.val (.ref a1), .val (.int p2), .unset, .unset] [(.int (xs.length.toInt32)), (.ref arr)])) (fun t k => st20 t k) ?_
    refine Goes.st (U' := T20.setTop (mkF m 56 #[.val (.ref a1), .val (.int p2), .unset, .unset] [(.int p2), (.int (xs.length.toInt32)), (.ref arr)])) (fun t k => XS.iloadN X20.here hx rfl (hb hby d3_55) rfl k) ?_
    have Vx21 := V_arr
    obtain ⟨cl21, Ar21, q21, S21, Nn21, H21, G21⟩ := Vx21
    have hin21 : ¬ ((xs.length.toInt32) < 0 ∨ cl21.slots.size ≤ ((xs.length.toInt32)).toNatClampNeg) := inb_of S21 (own_lt _ _ _ (own_full _ _ hlen hle_a1 hz0_a1 hc9) (own_nat _ hlen).1 (by rw [(own_nat _ hlen).2.1]; exact Nat.lt_succ_self _))
    obtain ⟨T21, h21, X21, e21, W21, st21⟩ := stI X20 hx hZ e20 Ar21 (j := (xs.length.toInt32)) hin21 (g := (mkF m 56 #[.val (.ref a1), .val (.int p2), .unset, .unset] [(.int p2), (.int (xs.length.toInt32)), (.ref arr)])) rfl rfl (hb hby d3_56)
    have V21 : Arv Z h21 arr k .int z ((xs ++ [p2]).map .int) (.int (0 : Int32)) := (by rw [List.map_append]; exact own_push Ar21 q21 S21 Nn21 H21 G21 rfl W21 (by rw [List.length_map]; exact (own_nat _ hlen).2.1))
    have N21 := Fr.snoc X21 N0 g_arr
    have K_22 : Keep h0 h21 [a1, arr] := (Keep.refl h0 [a1, arr]).wr W21 (Or.inl (List.mem_of_getElem? (i := 1) rfl))
    refine Goes.st (U' := T21.setTop (mkF m 57 #[.val (.ref a1), .val (.int p2), .unset, .unset] [])) (fun t k => st21 t k) ?_
    refine Goes.st (U' := T21.setTop (mkF m 58 #[.val (.ref a1), .val (.int p2), .unset, .unset] [(.ref a1)])) (fun t k => XS.aloadN X21.here hx rfl (hb hby d3_57) rfl rfl k) ?_
    refine Goes.st (U' := T21.setTop (mkF m 59 #[.val (.ref a1), .val (.int p2), .unset, .unset] [(.ref a1), (.ref a1)])) (fun t k => XS.dup X21.here hx rfl (hb hby d3_58) rfl rfl k) ?_
    obtain ⟨T23, X23, e23, st23⟩ := getF X21 hx hZ hown (host := "") (Or.inl (hw _ (List.mem_of_getElem? (i := 18) rfl))) Via.refl e21 (F_size_a1.other W21 (Or.inl ne_a1_arr)) (g := (mkF m 59 #[.val (.ref a1), .val (.int p2), .unset, .unset] [(.ref a1), (.ref a1)])) rfl rfl (hb hby d3_59)
    refine Goes.st (U' := T23.setTop (mkF m 62 #[.val (.ref a1), .val (.int p2), .unset, .unset] [(.int (xs.length.toInt32)), (.ref a1)])) (fun t k => st23 t k) ?_
    refine Goes.st (U' := T23.setTop (mkF m 63 #[.val (.ref a1), .val (.int p2), .unset, .unset] [(.int (1 : Int32)), (.int (xs.length.toInt32)), (.ref a1)])) (fun t k => XS.iconst X23.here hx rfl (hb hby d3_62) k) ?_
    refine Goes.st (U' := T23.setTop (mkF m 64 #[.val (.ref a1), .val (.int p2), .unset, .unset] [(.int ((xs.length.toInt32) + (1 : Int32))), (.ref a1)])) (fun t k => XS.iadd X23.here hx rfl (hb hby d3_63) rfl k) ?_
    obtain ⟨T24, h24, X24, e24, W24, st24⟩ := putF X23 hx hZ hown (host := "") (Or.inl (hw _ (List.mem_of_getElem? (i := 18) rfl))) Via.refl e23 (F_size_a1.other W21 (Or.inl ne_a1_arr)) (E_a1.wr W21) (Or.inl (hw _ (List.mem_of_getElem? (i := 19) rfl))) (hw _ (List.mem_of_getElem? (i := 2) rfl)) (ty := .int) (by decide) rfl rfl (g := (mkF m 64 #[.val (.ref a1), .val (.int p2), .unset, .unset] [(.int ((xs.length.toInt32) + (1 : Int32))), (.ref a1)])) rfl rfl (hb hby d3_64)
    have Fw24 := (F_size_a1.other W21 (Or.inl ne_a1_arr)).same W24
    have N24 := Fr.snoc X24 N21 g_a1
    have K_25 : Keep h0 h24 [a1, arr] := K_22.wr W24 (Or.inl (List.mem_of_getElem? (i := 0) rfl))
    refine Goes.st (U' := T24.setTop (mkF m 67 #[.val (.ref a1), .val (.int p2), .unset, .unset] [])) (fun t k => st24 t k) ?_
    refine Goes.retV X24 hx (BodyLoose.notSynchronized Bd) Bd.returns (hb hby d3_67) (by decide) (by decide) ?_
    show Q3 Z a1 p2 arr k z xs h0 n0 _ T24.heap _
    rw [e24]
    have Fs : Fld Z h24 a1 "com/example/cosine/cosine/index/IntList" "size" "I" (.int (xs ++ [p2]).length.toInt32) := by rw [List.length_append]; show Fld Z h24 a1 "com/example/cosine/cosine/index/IntList" "size" "I" (.int (xs.length + 1).toInt32); rw [(own_nat _ hlen).2.2]; exact Fw24
    exact ⟨rfl, N24, K_25, arr, k, z, ⟨((E_a1.wr W21).wr W24), Fs, ((F_values_a1.other W21 (Or.inl ne_a1_arr)).other W24 (Or.inr (slot_ne (Or.inl (hw _ (List.mem_of_getElem? (i := 12) rfl))) (Or.inl (hw _ (List.mem_of_getElem? (i := 19) rfl))) (by decide) (t := (.array .int)) (t' := .int) (by decide) (by decide)))), (V21.other W24 (Ne.symm ne_a1_arr)), ((E_arr.wr W21).wr W24), (by rw [List.length_append]; exact own_full _ _ hlen hle_a1 hz0_a1 hc9), hz8_a1, hz0_a1, ne_a1_arr⟩, g_arr, Or.inl rfl⟩
theorem d8_0 : decode prog_18_method_5_code 0 = .ok (.aload_n 0, 1) := by decide +kernel
theorem d8_1 : decode prog_18_method_5_code 1 = .ok (.getfield 15, 3) := by decide +kernel
theorem d8_4 : decode prog_18_method_5_code 4 = .ok (.ireturn, 1) := by decide +kernel
theorem ef_rm8 (m : MethodId) (a1 : Addr) : entryFrame m #[(.ref a1)] 1 = mkF m 0 #[.val (.ref a1)] [] := by first | (simp [entryFrame, mkF, argsToLocals, Value.category]; done) | rfl
def Q8 (Z : State) (a1 : Addr) (arr : Addr) (k : ClassId) (z : Int32) (xs : List Int32) (h0 : Heap) (n0 : Nat) (v : Option Value) (h : Heap) (L : List Loc) : Prop := v = some (.int xs.length.toInt32) ∧ Fr n0 L ∧ h = h0
set_option maxRecDepth 65536 in
set_option maxHeartbeats 40000000 in
theorem rm8 (l : Launch) (Z : State) (a0 : Array Value) (hw : ∀ d ∈ tables_1, d.before a0 Z = true) (ws : List Jvm.Cond) (a1 : Addr) (arr : Addr) (k : ClassId) (z : Int32) (xs : List Int32) (h0 : Heap) (n0 : Nat) (Z0 : n0 ≤ h0.size) (I : IL Z h0 a1 arr k z xs) :
    MetFree l (⟨"com/example/cosine/cosine/index/IntList", "size", "()I"⟩ : MethodName) (head1 (Jvm.Cond.code (⟨"com/example/cosine/cosine/index/IntList", "size", "()I"⟩ : MethodName) prog_18_method_5_code 1 (some .int) :: ws) ({ frames := 0, cells := 0, slots := 0, locals := 0 } : Room)) (fun a U => a = #[(.ref a1)] ∧ Z.Warmed39 U.vm ∧ U.heap = h0) (fun _ _ _ _ _ => True) (fun _ U o U' => ∃ v L, o = .returned v ∧ Q8 Z a1 arr k z xs h0 n0 v U'.heap L ∧ FrameEnd U o U' L ({ frames := 0, cells := 0, slots := 0, locals := 0 } : Room).cells ({ frames := 0, cells := 0, slots := 0, locals := 0 } : Room).slots) := by
  refine MetFree.of_bodySF (plainFor_of_name pn_0) hisR ?_
  intro p e s m args below meth c s₁ Bd hml0 hP hK
  obtain ⟨rfl, hZ, hh⟩ := hP
  have hx := Bd.exec
  have hby := Bd.bytes
  have hml : c.maxLocals = 1 := hml0
  have hown : s.vm.findClass "com/example/cosine/cosine/index/IntList" = some m.cls := findClass_of_methodNamed Bd.named
  have hnm := (name_of_methodNamed Bd.named Bd.method).1
  have X0 : Stand p l e ({ frames := 0, cells := 0, slots := 0, locals := 0 } : Room) s m #[(.ref a1)] below meth c s₁ [] 0 0 := Stand.of_body Bd
  have e0 : s₁.heap = h0 := by rw [← hh, Bd.state]; rfl
  have N0 := Fr.nil n0
  show Goes p e s below (fun v h L => Q8 Z a1 arr k z xs h0 n0 v h L) ({ frames := 0, cells := 0, slots := 0, locals := 0 } : Room).cells ({ frames := 0, cells := 0, slots := 0, locals := 0 } : Room).slots (s₁.setTop (entryFrame m #[(.ref a1)] 1))
  refine Goes.st (U' := s₁.setTop (mkF m 0 #[.val (.ref a1)] [])) (fun t k => castTop (ef_rm8 m a1) k) ?_
  obtain ⟨E_a1, F_size_a1, F_values_a1, V_arr, E_arr, hle_a1, hz8_a1, hz0_a1, ne_a1_arr⟩ := I
  refine Goes.st (U' := s₁.setTop (mkF m 1 #[.val (.ref a1)] [(.ref a1)])) (fun t k => XS.aloadN X0.here hx rfl (hb hby d8_0) rfl rfl k) ?_
  obtain ⟨T1, X1, e1, st1⟩ := getF X0 hx hZ hown (host := "") (Or.inl (hw _ (List.mem_of_getElem? (i := 18) rfl))) Via.refl e0 F_size_a1 (g := (mkF m 1 #[.val (.ref a1)] [(.ref a1)])) rfl rfl (hb hby d8_1)
  refine Goes.st (U' := T1.setTop (mkF m 4 #[.val (.ref a1)] [(.int (xs.length.toInt32))])) (fun t k => st1 t k) ?_
  refine Goes.retI X1 hx (BodyLoose.notSynchronized Bd) Bd.returns (hb hby d8_4) (by decide) (by decide) ?_
  show Q8 Z a1 arr k z xs h0 n0 _ T1.heap _
  rw [e1]
  exact ⟨rfl, N0, rfl⟩
theorem d9_0 : decode prog_18_method_4_code 0 = .ok (.aload_n 0, 1) := by decide +kernel
theorem d9_1 : decode prog_18_method_4_code 1 = .ok (.getfield 9, 3) := by decide +kernel
theorem d9_4 : decode prog_18_method_4_code 4 = .ok (.iload_n 1, 1) := by decide +kernel
theorem d9_5 : decode prog_18_method_4_code 5 = .ok (.iaload, 1) := by decide +kernel
theorem d9_6 : decode prog_18_method_4_code 6 = .ok (.ireturn, 1) := by decide +kernel
theorem ef_rm9 (m : MethodId) (a1 : Addr) (p2 : Int32) : entryFrame m #[(.ref a1), (.int p2)] 2 = mkF m 0 #[.val (.ref a1), .val (.int p2)] [] := by first | (simp [entryFrame, mkF, argsToLocals, Value.category]; done) | rfl
def Q9 (Z : State) (a1 : Addr) (p2 : Int32) (arr : Addr) (k : ClassId) (z : Int32) (xs : List Int32) (w : Int32) (h0 : Heap) (n0 : Nat) (v : Option Value) (h : Heap) (L : List Loc) : Prop := v = some (.int w) ∧ Fr n0 L ∧ h = h0
set_option maxRecDepth 65536 in
set_option maxHeartbeats 40000000 in
theorem rm9 (l : Launch) (Z : State) (a0 : Array Value) (hw : ∀ d ∈ tables_1, d.before a0 Z = true) (ws : List Jvm.Cond) (a1 : Addr) (p2 : Int32) (arr : Addr) (k : ClassId) (z : Int32) (xs : List Int32) (w : Int32) (h0 : Heap) (n0 : Nat) (Z0 : n0 ≤ h0.size) (I : IL Z h0 a1 arr k z xs) (hi : ¬ p2 < 0) (hl : p2.toNatClampNeg < xs.length) (hat : (xs.map Value.int).getD p2.toNatClampNeg (.int (0 : Int32)) = .int w) :
    MetFree l (⟨"com/example/cosine/cosine/index/IntList", "get", "(I)I"⟩ : MethodName) (head1 (Jvm.Cond.code (⟨"com/example/cosine/cosine/index/IntList", "get", "(I)I"⟩ : MethodName) prog_18_method_4_code 2 (some .int) :: ws) ({ frames := 0, cells := 0, slots := 0, locals := 0 } : Room)) (fun a U => a = #[(.ref a1), (.int p2)] ∧ Z.Warmed39 U.vm ∧ U.heap = h0) (fun _ _ _ _ _ => True) (fun _ U o U' => ∃ v L, o = .returned v ∧ Q9 Z a1 p2 arr k z xs w h0 n0 v U'.heap L ∧ FrameEnd U o U' L ({ frames := 0, cells := 0, slots := 0, locals := 0 } : Room).cells ({ frames := 0, cells := 0, slots := 0, locals := 0 } : Room).slots) := by
  refine MetFree.of_bodySF (plainFor_of_name pn_0) hisR ?_
  intro p e s m args below meth c s₁ Bd hml0 hP hK
  obtain ⟨rfl, hZ, hh⟩ := hP
  have hx := Bd.exec
  have hby := Bd.bytes
  have hml : c.maxLocals = 2 := hml0
  have hown : s.vm.findClass "com/example/cosine/cosine/index/IntList" = some m.cls := findClass_of_methodNamed Bd.named
  have hnm := (name_of_methodNamed Bd.named Bd.method).1
  have X0 : Stand p l e ({ frames := 0, cells := 0, slots := 0, locals := 0 } : Room) s m #[(.ref a1), (.int p2)] below meth c s₁ [] 0 0 := Stand.of_body Bd
  have e0 : s₁.heap = h0 := by rw [← hh, Bd.state]; rfl
  have N0 := Fr.nil n0
  show Goes p e s below (fun v h L => Q9 Z a1 p2 arr k z xs w h0 n0 v h L) ({ frames := 0, cells := 0, slots := 0, locals := 0 } : Room).cells ({ frames := 0, cells := 0, slots := 0, locals := 0 } : Room).slots (s₁.setTop (entryFrame m #[(.ref a1), (.int p2)] 2))
  refine Goes.st (U' := s₁.setTop (mkF m 0 #[.val (.ref a1), .val (.int p2)] [])) (fun t k => castTop (ef_rm9 m a1 p2) k) ?_
  obtain ⟨E_a1, F_size_a1, F_values_a1, V_arr, E_arr, hle_a1, hz8_a1, hz0_a1, ne_a1_arr⟩ := I
  refine Goes.st (U' := s₁.setTop (mkF m 1 #[.val (.ref a1), .val (.int p2)] [(.ref a1)])) (fun t k => XS.aloadN X0.here hx rfl (hb hby d9_0) rfl rfl k) ?_
  obtain ⟨T1, X1, e1, st1⟩ := getF X0 hx hZ hown (host := "") (Or.inl (hw _ (List.mem_of_getElem? (i := 11) rfl))) Via.refl e0 F_values_a1 (g := (mkF m 1 #[.val (.ref a1), .val (.int p2)] [(.ref a1)])) rfl rfl (hb hby d9_1)
  refine Goes.st (U' := T1.setTop (mkF m 4 #[.val (.ref a1), .val (.int p2)] [(.ref arr)])) (fun t k => st1 t k) ?_
  refine Goes.st (U' := T1.setTop (mkF m 5 #[.val (.ref a1), .val (.int p2)] [(.int p2), (.ref arr)])) (fun t k => XS.iloadN X1.here hx rfl (hb hby d9_4) rfl k) ?_
  have Vx2 := V_arr
  obtain ⟨cl2, Ar2, q2, S2, Nn2, H2, G2⟩ := Vx2
  have hin2 : ¬ (p2 < 0 ∨ cl2.slots.size ≤ (p2).toNatClampNeg) := inb_of S2 (own_lt _ _ _ hle_a1 hi hl)
  have hat2 : cl2.slots[(p2).toNatClampNeg]? = some (.int w) := H2.at hin2 hat
  refine Goes.st (U' := T1.setTop (mkF m 6 #[.val (.ref a1), .val (.int p2)] [(.int w)])) (fun t k => X1.iaload hx (j := p2) (v := (.int w)) (by rw [e1]; exact Ar2.1) (State.isArrayOf_alike hZ.alike Ar2.2.1) Ar2.2.2 hin2 hat2 (g := (mkF m 5 #[.val (.ref a1), .val (.int p2)] [(.int p2), (.ref arr)])) rfl rfl (hb hby d9_5) t k) ?_
  refine Goes.retI X1 hx (BodyLoose.notSynchronized Bd) Bd.returns (hb hby d9_6) (by decide) (by decide) ?_
  show Q9 Z a1 p2 arr k z xs w h0 n0 _ T1.heap _
  rw [e1]
  exact ⟨rfl, N0, rfl⟩
theorem own_cap (x : Int32) : ¬ (x &&& (7 : Int32)) < 0 ∧ (x &&& (7 : Int32)).toNatClampNeg ≤ 8 := by
  have h := c_mask x 7 3 (by decide) (by decide)
  rw [Int32.lt_iff_toInt_lt]
  have e0 : (0 : Int32).toInt = 0 := rfl
  simp only [Int32.toNatClampNeg]
  omega
theorem own_n (x : Int32) : (x &&& (2147483647 : Int32)) % (5 : Int32) = 0 ∨ (x &&& (2147483647 : Int32)) % (5 : Int32) = 1 ∨ (x &&& (2147483647 : Int32)) % (5 : Int32) = 2 ∨ (x &&& (2147483647 : Int32)) % (5 : Int32) = 3 ∨ (x &&& (2147483647 : Int32)) % (5 : Int32) = 4 := by
  have h := c_mask x 2147483647 31 (by decide) (by decide)
  have h2 := c_irem (x &&& 2147483647) 5 5 rfl
  simp only [← Int32.toInt_inj]
  have e0 : (0 : Int32).toInt = 0 := rfl
  have e1 : (1 : Int32).toInt = 1 := rfl
  have e2 : (2 : Int32).toInt = 2 := rfl
  have e3 : (3 : Int32).toInt = 3 := rfl
  have e4 : (4 : Int32).toInt = 4 := rfl
  omega
theorem pd_3 : parseMethodDescriptor "(I)V" = some ⟨[.int], none⟩ := by decide +kernel
theorem pd_4 : parseMethodDescriptor "()I" = some ⟨[], some .int⟩ := by decide +kernel
theorem pd_5 : parseMethodDescriptor "(I)I" = some ⟨[.int], some .int⟩ := by decide +kernel
theorem pn_2 : plainName "com/example/cosine/cosine/index/IntListAddPinLaw" = true := by first | (simp [plainName, overriddenIn]; done) | decide +kernel
theorem ef_rm0 (m : MethodId) (p1 : Int32) (p2 : Int32) (p3 : Int32) (p4 : Int32) (p5 : Int32) (p6 : Int32) : entryFrame m #[(.int p1), (.int p2), (.int p3), (.int p4), (.int p5), (.int p6)] maxLocals = mkF m 0 #[.val (.int p1), .val (.int p2), .val (.int p3), .val (.int p4), .val (.int p5), .val (.int p6), .unset, .unset, .unset] [] := by first | (simp [entryFrame, mkF, argsToLocals, Value.category, maxLocals]; done) | rfl
def Q0 (Z : State) (p1 : Int32) (p2 : Int32) (p3 : Int32) (p4 : Int32) (p5 : Int32) (p6 : Int32) (h0 : Heap) (n0 : Nat) (v : Option Value) (h : Heap) (L : List Loc) : Prop := v = some (.int 1) ∧ Fr n0 L
set_option maxRecDepth 65536 in
set_option maxHeartbeats 40000000 in
theorem rm0 (l : Launch) (Z : State) (a0 : Array Value) (hw : ∀ d ∈ tables_1, d.before a0 Z = true) (ws : List Jvm.Cond) (p1 : Int32) (p2 : Int32) (p3 : Int32) (p4 : Int32) (p5 : Int32) (p6 : Int32) (h0 : Heap) (n0 : Nat) (Z0 : n0 ≤ h0.size) :
    MetFree l x (head1 (Jvm.Cond.code x code maxLocals ret :: ws) room_1) (fun a U => a = #[(.int p1), (.int p2), (.int p3), (.int p4), (.int p5), (.int p6)] ∧ Z.Warmed39 U.vm ∧ U.heap = h0) (fun _ _ _ _ _ => True) (fun _ U o U' => ∃ v L, o = .returned v ∧ Q0 Z p1 p2 p3 p4 p5 p6 h0 n0 v U'.heap L ∧ FrameEnd U o U' L room_1.cells room_1.slots) := by
  refine MetFree.of_bodySF (plainFor_of_name pn_2) hisR ?_
  intro p e s m args below meth c s₁ Bd hml0 hP hK
  obtain ⟨rfl, hZ, hh⟩ := hP
  have hx := Bd.exec
  have hby := Bd.bytes
  have hml : c.maxLocals = 9 := hml0
  have hown : s.vm.findClass "com/example/cosine/cosine/index/IntListAddPinLaw" = some m.cls := findClass_of_methodNamed Bd.named
  have hnm := (name_of_methodNamed Bd.named Bd.method).1
  have X0 : Stand p l e room_1 s m #[(.int p1), (.int p2), (.int p3), (.int p4), (.int p5), (.int p6)] below meth c s₁ [] 0 0 := Stand.of_body Bd
  have e0 : s₁.heap = h0 := by rw [← hh, Bd.state]; rfl
  have N0 := Fr.nil n0
  show Goes p e s below (fun v h L => Q0 Z p1 p2 p3 p4 p5 p6 h0 n0 v h L) room_1.cells room_1.slots (s₁.setTop (entryFrame m #[(.int p1), (.int p2), (.int p3), (.int p4), (.int p5), (.int p6)] maxLocals))
  refine Goes.st (U' := s₁.setTop (mkF m 0 #[.val (.int p1), .val (.int p2), .val (.int p3), .val (.int p4), .val (.int p5), .val (.int p6), .unset, .unset, .unset] [])) (fun t k => castTop (ef_rm0 m p1 p2 p3 p4 p5 p6) k) ?_
  refine Goes.st (U' := s₁.setTop (mkF m 1 #[.val (.int p1), .val (.int p2), .val (.int p3), .val (.int p4), .val (.int p5), .val (.int p6), .unset, .unset, .unset] [(.int p1)])) (fun t k => XS.iloadN X0.here hx rfl (hb hby at_0) rfl k) ?_
  refine Goes.st (U' := s₁.setTop (mkF m 3 #[.val (.int p1), .val (.int p2), .val (.int p3), .val (.int p4), .val (.int p5), .val (.int p6), .unset, .unset, .unset] [(.int (7 : Int32)), (.int p1)])) (fun t k => XS.bipush X0.here hx rfl (hb hby at_1) k) ?_
  refine Goes.st (U' := s₁.setTop (mkF m 4 #[.val (.int p1), .val (.int p2), .val (.int p3), .val (.int p4), .val (.int p5), .val (.int p6), .unset, .unset, .unset] [(.int (p1 &&& (7 : Int32)))])) (fun t k => XS.iand X0.here hx rfl (hb hby at_3) rfl k) ?_
  refine Goes.st (U' := s₁.setTop (mkF m 6 #[.val (.int p1), .val (.int p2), .val (.int p3), .val (.int p4), .val (.int p5), .val (.int p6), .val (.int (p1 &&& (7 : Int32))), .unset, .unset] [])) (fun t k => XS.istore X0.here hx rfl (hb hby at_4) rfl (l' := #[.val (.int p1), .val (.int p2), .val (.int p3), .val (.int p4), .val (.int p5), .val (.int p6), .val (.int (p1 &&& (7 : Int32))), .unset, .unset]) rfl k) ?_
  refine Goes.st (U' := s₁.setTop (mkF m 7 #[.val (.int p1), .val (.int p2), .val (.int p3), .val (.int p4), .val (.int p5), .val (.int p6), .val (.int (p1 &&& (7 : Int32))), .unset, .unset] [(.int p2)])) (fun t k => XS.iloadN X0.here hx rfl (hb hby at_6) rfl k) ?_
  refine Goes.st (U' := s₁.setTop (mkF m 9 #[.val (.int p1), .val (.int p2), .val (.int p3), .val (.int p4), .val (.int p5), .val (.int p6), .val (.int (p1 &&& (7 : Int32))), .unset, .unset] [(.int (2147483647 : Int32)), (.int p2)])) (fun t k => X0.ldcInt hx hown (mvT hZ (hw _ (List.mem_of_getElem? (i := 0) rfl))) (g := (mkF m 7 #[.val (.int p1), .val (.int p2), .val (.int p3), .val (.int p4), .val (.int p5), .val (.int p6), .val (.int (p1 &&& (7 : Int32))), .unset, .unset] [(.int p2)])) rfl (hb hby at_7) t k) ?_
  refine Goes.st (U' := s₁.setTop (mkF m 10 #[.val (.int p1), .val (.int p2), .val (.int p3), .val (.int p4), .val (.int p5), .val (.int p6), .val (.int (p1 &&& (7 : Int32))), .unset, .unset] [(.int (p2 &&& (2147483647 : Int32)))])) (fun t k => XS.iand X0.here hx rfl (hb hby at_9) rfl k) ?_
  refine Goes.st (U' := s₁.setTop (mkF m 11 #[.val (.int p1), .val (.int p2), .val (.int p3), .val (.int p4), .val (.int p5), .val (.int p6), .val (.int (p1 &&& (7 : Int32))), .unset, .unset] [(.int (5 : Int32)), (.int (p2 &&& (2147483647 : Int32)))])) (fun t k => XS.iconst X0.here hx rfl (hb hby at_10) k) ?_
  refine Goes.st (U' := s₁.setTop (mkF m 12 #[.val (.int p1), .val (.int p2), .val (.int p3), .val (.int p4), .val (.int p5), .val (.int p6), .val (.int (p1 &&& (7 : Int32))), .unset, .unset] [(.int ((p2 &&& (2147483647 : Int32)) % (5 : Int32)))])) (fun t k => iremM X0 hx rfl (hb hby at_11) rfl (by decide : ¬ ((5 : Int32) = (0 : Int32))) k) ?_
  obtain ⟨nn1, hnn1⟩ : ∃ z : Int32, z = ((p2 &&& (2147483647 : Int32)) % (5 : Int32)) := ⟨_, rfl⟩
  have hcsnn1 : nn1 = (0 : Int32) ∨ nn1 = (1 : Int32) ∨ nn1 = (2 : Int32) ∨ nn1 = (3 : Int32) ∨ nn1 = (4 : Int32) := by rw [hnn1]; exact own_n p2
  rw [← hnn1]
  clear hnn1
  rcases hcsnn1 with rfl | rfl | rfl | rfl | rfl
  · skip
    refine Goes.st (U' := s₁.setTop (mkF m 14 #[.val (.int p1), .val (.int p2), .val (.int p3), .val (.int p4), .val (.int p5), .val (.int p6), .val (.int (p1 &&& (7 : Int32))), .val (.int (0 : Int32)), .unset] [])) (fun t k => XS.istore X0.here hx rfl (hb hby at_12) rfl (l' := #[.val (.int p1), .val (.int p2), .val (.int p3), .val (.int p4), .val (.int p5), .val (.int p6), .val (.int (p1 &&& (7 : Int32))), .val (.int (0 : Int32)), .unset]) rfl k) ?_
    obtain ⟨T2, h2, X2, e2, E2, A2, D2, -, st2⟩ := newO X0 hx hZ hown (hw _ (List.mem_of_getElem? (i := 1) rfl)) (hw _ (List.mem_of_getElem? (i := 2) rfl)) (hw _ (List.mem_of_getElem? (i := 3) rfl)) e0 (g := (mkF m 14 #[.val (.int p1), .val (.int p2), .val (.int p3), .val (.int p4), .val (.int p5), .val (.int p6), .val (.int (p1 &&& (7 : Int32))), .val (.int (0 : Int32)), .unset] [])) rfl (hb hby at_14) (by decide) (by decide)
    obtain ⟨b2, g2⟩ : ∃ z, z = h0.size := ⟨_, rfl⟩
    rw [← g2] at A2 D2 st2
    have g_b2 : n0 ≤ b2 := Nat.le_trans Z0 (Nat.le_of_eq g2.symm)
    have F_values_b2 : Fld Z h2 b2 "com/example/cosine/cosine/index/IntList" "values" "[I" .null := D2 (Or.inl (hw _ (List.mem_of_getElem? (i := 12) rfl))) (ty := (.array .int)) (by decide)
    have F_size_b2 : Fld Z h2 b2 "com/example/cosine/cosine/index/IntList" "size" "I" (.int (0 : Int32)) := D2 (Or.inl (hw _ (List.mem_of_getElem? (i := 19) rfl))) (ty := .int) (by decide)
    refine Goes.st (U' := T2.setTop (mkF m 17 #[.val (.int p1), .val (.int p2), .val (.int p3), .val (.int p4), .val (.int p5), .val (.int p6), .val (.int (p1 &&& (7 : Int32))), .val (.int (0 : Int32)), .unset] [(.ref b2)])) (fun t k => st2 t k) ?_
    refine Goes.st (U' := T2.setTop (mkF m 18 #[.val (.int p1), .val (.int p2), .val (.int p3), .val (.int p4), .val (.int p5), .val (.int p6), .val (.int (p1 &&& (7 : Int32))), .val (.int (0 : Int32)), .unset] [(.ref b2), (.ref b2)])) (fun t k => XS.dup X2.here hx rfl (hb hby at_17) rfl rfl k) ?_
    refine Goes.st (U' := T2.setTop (mkF m 20 #[.val (.int p1), .val (.int p2), .val (.int p3), .val (.int p4), .val (.int p5), .val (.int p6), .val (.int (p1 &&& (7 : Int32))), .val (.int (0 : Int32)), .unset] [(.int (p1 &&& (7 : Int32))), (.ref b2), (.ref b2)])) (fun t k => XS.iload X2.here hx rfl (hb hby at_18) rfl k) ?_
    obtain ⟨_, _, ⟨T3, L3, k3, n3⟩, -, X3, ⟨Lc3, hQ3, l3, y3, z3⟩, st3⟩ := X2.specialBack hx (y := (⟨"com/example/cosine/cosine/index/IntList", "<init>", "(I)V"⟩ : MethodName)) rfl hown (mvT hZ (hw _ (List.mem_of_getElem? (i := 4) rfl))) (mvT hZ (hw _ (List.mem_of_getElem? (i := 5) rfl))) (mvT hZ (hw _ (List.mem_of_getElem? (i := 6) rfl))) (by decide) (backOf (W := 1) (rm1 l Z a0 hw [] b2 (p1 &&& (7 : Int32)) h2 n0 (Nat.le_trans Z0 E2.1) A2 F_values_b2 F_size_b2 g_b2 (own_cap p1).1 (own_cap p1).2) hZ (hw _ (List.mem_of_getElem? (i := 6) rfl)) (hw _ (List.mem_of_getElem? (i := 3) rfl)) (by decide) (by decide)) (g := (mkF m 20 #[.val (.int p1), .val (.int p2), .val (.int p3), .val (.int p4), .val (.int p5), .val (.int p6), .val (.int (p1 &&& (7 : Int32))), .val (.int (0 : Int32)), .unset] [(.int (p1 &&& (7 : Int32))), (.ref b2), (.ref b2)])) rfl (by rw [hml]; rfl) (Steps.refl _) (a := b2) (argsL := [(.int (p1 &&& (7 : Int32)))]) (rest := [(.ref b2)]) (lenOf pd_3 rfl) rfl (by show 2 * 0 + _ ≤ _; exact Nat.le_of_eq rfl) (hb hby at_20) (fun _ _ => ⟨rfl, e2, (by decide : 1 + 1 ≤ _), (by decide : 2 + 8 ≤ _)⟩)
    dsimp only [Pt.U, Pt.locs, Pt.cells, Pt.slots] at X3 l3 y3 z3 st3 hQ3
    subst l3 y3 z3
    obtain ⟨rfl, N3q, K3, ar3, ka3, I3, g_ar3, u3⟩ := hQ3
    have N3 := Fr.app N0 N3q
    have ne_b2_ar3 : b2 ≠ ar3 := Nat.ne_of_lt (Nat.lt_of_lt_of_le A2.lt u3)
    refine Goes.tr (U' := T3.setTop (mkF m 23 #[.val (.int p1), .val (.int p2), .val (.int p3), .val (.int p4), .val (.int p5), .val (.int p6), .val (.int (p1 &&& (7 : Int32))), .val (.int (0 : Int32)), .unset] [(.ref b2)])) st3 ?_
    refine Goes.st (U' := T3.setTop (mkF m 25 #[.val (.int p1), .val (.int p2), .val (.int p3), .val (.int p4), .val (.int p5), .val (.int p6), .val (.int (p1 &&& (7 : Int32))), .val (.int (0 : Int32)), .val (.ref b2)] [])) (fun t k => XS.astore X3.here hx rfl (hb hby at_23) rfl rfl (l' := #[.val (.int p1), .val (.int p2), .val (.int p3), .val (.int p4), .val (.int p5), .val (.int p6), .val (.int (p1 &&& (7 : Int32))), .val (.int (0 : Int32)), .val (.ref b2)]) rfl k) ?_
    refine Goes.st (U' := T3.setTop (mkF m 27 #[.val (.int p1), .val (.int p2), .val (.int p3), .val (.int p4), .val (.int p5), .val (.int p6), .val (.int (p1 &&& (7 : Int32))), .val (.int (0 : Int32)), .val (.ref b2)] [(.int (0 : Int32))])) (fun t k => XS.iload X3.here hx rfl (hb hby at_25) rfl k) ?_
    refine Goes.st (U' := T3.setTop (mkF m 36 #[.val (.int p1), .val (.int p2), .val (.int p3), .val (.int p4), .val (.int p5), .val (.int p6), .val (.int (p1 &&& (7 : Int32))), .val (.int (0 : Int32)), .val (.ref b2)] [])) (fun t k => XS.ifYes X3.here hx rfl (pc0 := 27) (pc' := 36) rfl (hb hby at_27) rfl ((if0 _ _).trans (flt (by decide : ¬ ((0 : Int32) < (0 : Int32)))).2.2.2) (by decide) (by decide) k) ?_
    refine Goes.st (U' := T3.setTop (mkF m 38 #[.val (.int p1), .val (.int p2), .val (.int p3), .val (.int p4), .val (.int p5), .val (.int p6), .val (.int (p1 &&& (7 : Int32))), .val (.int (0 : Int32)), .val (.ref b2)] [(.int (0 : Int32))])) (fun t k => XS.iload X3.here hx rfl (hb hby at_36) rfl k) ?_
    refine Goes.st (U' := T3.setTop (mkF m 39 #[.val (.int p1), .val (.int p2), .val (.int p3), .val (.int p4), .val (.int p5), .val (.int p6), .val (.int (p1 &&& (7 : Int32))), .val (.int (0 : Int32)), .val (.ref b2)] [(.int (1 : Int32)), (.int (0 : Int32))])) (fun t k => XS.iconst X3.here hx rfl (hb hby at_38) k) ?_
    refine Goes.st (U' := T3.setTop (mkF m 48 #[.val (.int p1), .val (.int p2), .val (.int p3), .val (.int p4), .val (.int p5), .val (.int p6), .val (.int (p1 &&& (7 : Int32))), .val (.int (0 : Int32)), .val (.ref b2)] [])) (fun t k => XS.icmpYes X3.here hx rfl (pc0 := 39) (pc' := 48) rfl (hb hby at_39) rfl (flt (by decide : ¬ ((1 : Int32) < (0 : Int32)))).2.2.2 (by decide) (by decide) k) ?_
    refine Goes.st (U' := T3.setTop (mkF m 50 #[.val (.int p1), .val (.int p2), .val (.int p3), .val (.int p4), .val (.int p5), .val (.int p6), .val (.int (p1 &&& (7 : Int32))), .val (.int (0 : Int32)), .val (.ref b2)] [(.int (0 : Int32))])) (fun t k => XS.iload X3.here hx rfl (hb hby at_48) rfl k) ?_
    refine Goes.st (U' := T3.setTop (mkF m 51 #[.val (.int p1), .val (.int p2), .val (.int p3), .val (.int p4), .val (.int p5), .val (.int p6), .val (.int (p1 &&& (7 : Int32))), .val (.int (0 : Int32)), .val (.ref b2)] [(.int (2 : Int32)), (.int (0 : Int32))])) (fun t k => XS.iconst X3.here hx rfl (hb hby at_50) k) ?_
    refine Goes.st (U' := T3.setTop (mkF m 61 #[.val (.int p1), .val (.int p2), .val (.int p3), .val (.int p4), .val (.int p5), .val (.int p6), .val (.int (p1 &&& (7 : Int32))), .val (.int (0 : Int32)), .val (.ref b2)] [])) (fun t k => XS.icmpYes X3.here hx rfl (pc0 := 51) (pc' := 61) rfl (hb hby at_51) rfl (flt (by decide : ¬ ((2 : Int32) < (0 : Int32)))).2.2.2 (by decide) (by decide) k) ?_
    refine Goes.st (U' := T3.setTop (mkF m 63 #[.val (.int p1), .val (.int p2), .val (.int p3), .val (.int p4), .val (.int p5), .val (.int p6), .val (.int (p1 &&& (7 : Int32))), .val (.int (0 : Int32)), .val (.ref b2)] [(.int (0 : Int32))])) (fun t k => XS.iload X3.here hx rfl (hb hby at_61) rfl k) ?_
    refine Goes.st (U' := T3.setTop (mkF m 64 #[.val (.int p1), .val (.int p2), .val (.int p3), .val (.int p4), .val (.int p5), .val (.int p6), .val (.int (p1 &&& (7 : Int32))), .val (.int (0 : Int32)), .val (.ref b2)] [(.int (3 : Int32)), (.int (0 : Int32))])) (fun t k => XS.iconst X3.here hx rfl (hb hby at_63) k) ?_
    refine Goes.st (U' := T3.setTop (mkF m 74 #[.val (.int p1), .val (.int p2), .val (.int p3), .val (.int p4), .val (.int p5), .val (.int p6), .val (.int (p1 &&& (7 : Int32))), .val (.int (0 : Int32)), .val (.ref b2)] [])) (fun t k => XS.icmpYes X3.here hx rfl (pc0 := 64) (pc' := 74) rfl (hb hby at_64) rfl (flt (by decide : ¬ ((3 : Int32) < (0 : Int32)))).2.2.2 (by decide) (by decide) k) ?_
    refine Goes.st (U' := T3.setTop (mkF m 76 #[.val (.int p1), .val (.int p2), .val (.int p3), .val (.int p4), .val (.int p5), .val (.int p6), .val (.int (p1 &&& (7 : Int32))), .val (.int (0 : Int32)), .val (.ref b2)] [(.ref b2)])) (fun t k => XS.aload X3.here hx rfl (hb hby at_74) rfl rfl k) ?_
    obtain ⟨cq4, kq4, q4a, q4b, q4c⟩ := isOf hZ rfl I3.1
    obtain ⟨_, _, ⟨T4, L4, k4, n4⟩, -, X4, ⟨Lc4, hQ4, l4, y4, z4⟩, st4⟩ := X3.virtualBack hx (y := (⟨"com/example/cosine/cosine/index/IntList", "size", "()I"⟩ : MethodName)) (z := (⟨"com/example/cosine/cosine/index/IntList", "size", "()I"⟩ : MethodName)) hown (mvT hZ (hw _ (List.mem_of_getElem? (i := 41) rfl))) (mvT hZ (hw _ (List.mem_of_getElem? (i := 42) rfl))) (notFace_of_selects (args := #[]) (mvT hZ (hw _ (List.mem_of_getElem? (i := 44) rfl)))) (mvT hZ (hw _ (List.mem_of_getElem? (i := 44) rfl))) (mvT hZ (hw _ (List.mem_of_getElem? (i := 43) rfl))) (by decide) (backOf (W := 0) (rm8 l Z a0 hw [] b2 ar3 ka3 (p1 &&& (7 : Int32)) [] T3.heap n0 (Nat.le_trans (Nat.le_trans Z0 E2.1) K3.1) I3) hZ (hw _ (List.mem_of_getElem? (i := 45) rfl)) (hw _ (List.mem_of_getElem? (i := 3) rfl)) (by decide) (by decide)) q4a q4c (g := (mkF m 76 #[.val (.int p1), .val (.int p2), .val (.int p3), .val (.int p4), .val (.int p5), .val (.int p6), .val (.int (p1 &&& (7 : Int32))), .val (.int (0 : Int32)), .val (.ref b2)] [(.ref b2)])) rfl (by rw [hml]; rfl) (Steps.refl _) (argsL := []) (rest := []) (lenOf pd_4 rfl) rfl (by show 2 * 0 + _ ≤ _; exact Nat.le_of_eq rfl) (hb hby at_76) (fun _ _ => ⟨rfl, rfl, (by decide : 2 + 0 ≤ _), (by decide : 10 + 0 ≤ _)⟩)
    dsimp only [Pt.U, Pt.locs, Pt.cells, Pt.slots] at X4 l4 y4 z4 st4 hQ4
    subst l4 y4 z4
    obtain ⟨rfl, N4q, e4⟩ := hQ4
    have N4 := Fr.app N3 N4q
    replace e4 := e4
    refine Goes.tr (U' := T4.setTop (mkF m 79 #[.val (.int p1), .val (.int p2), .val (.int p3), .val (.int p4), .val (.int p5), .val (.int p6), .val (.int (p1 &&& (7 : Int32))), .val (.int (0 : Int32)), .val (.ref b2)] [(.int (0 : Int32))])) st4 ?_
    refine Goes.st (U' := T4.setTop (mkF m 81 #[.val (.int p1), .val (.int p2), .val (.int p3), .val (.int p4), .val (.int p5), .val (.int p6), .val (.int (p1 &&& (7 : Int32))), .val (.int (0 : Int32)), .val (.ref b2)] [(.int (0 : Int32)), (.int (0 : Int32))])) (fun t k => XS.iload X4.here hx rfl (hb hby at_79) rfl k) ?_
    refine Goes.st (U' := T4.setTop (mkF m 86 #[.val (.int p1), .val (.int p2), .val (.int p3), .val (.int p4), .val (.int p5), .val (.int p6), .val (.int (p1 &&& (7 : Int32))), .val (.int (0 : Int32)), .val (.ref b2)] [])) (fun t k => XS.icmpYes X4.here hx rfl (pc0 := 81) (pc' := 86) rfl (hb hby at_81) rfl (teq (rfl : (0 : Int32) = (0 : Int32))).1 (by decide) (by decide) k) ?_
    refine Goes.st (U' := T4.setTop (mkF m 88 #[.val (.int p1), .val (.int p2), .val (.int p3), .val (.int p4), .val (.int p5), .val (.int p6), .val (.int (p1 &&& (7 : Int32))), .val (.int (0 : Int32)), .val (.ref b2)] [(.int (0 : Int32))])) (fun t k => XS.iload X4.here hx rfl (hb hby at_86) rfl k) ?_
    refine Goes.st (U' := T4.setTop (mkF m 103 #[.val (.int p1), .val (.int p2), .val (.int p3), .val (.int p4), .val (.int p5), .val (.int p6), .val (.int (p1 &&& (7 : Int32))), .val (.int (0 : Int32)), .val (.ref b2)] [])) (fun t k => XS.ifYes X4.here hx rfl (pc0 := 88) (pc' := 103) rfl (hb hby at_88) rfl ((if0 _ _).trans (flt (by decide : ¬ ((0 : Int32) < (0 : Int32)))).2.2.2) (by decide) (by decide) k) ?_
    refine Goes.st (U' := T4.setTop (mkF m 105 #[.val (.int p1), .val (.int p2), .val (.int p3), .val (.int p4), .val (.int p5), .val (.int p6), .val (.int (p1 &&& (7 : Int32))), .val (.int (0 : Int32)), .val (.ref b2)] [(.int (0 : Int32))])) (fun t k => XS.iload X4.here hx rfl (hb hby at_103) rfl k) ?_
    refine Goes.st (U' := T4.setTop (mkF m 106 #[.val (.int p1), .val (.int p2), .val (.int p3), .val (.int p4), .val (.int p5), .val (.int p6), .val (.int (p1 &&& (7 : Int32))), .val (.int (0 : Int32)), .val (.ref b2)] [(.int (1 : Int32)), (.int (0 : Int32))])) (fun t k => XS.iconst X4.here hx rfl (hb hby at_105) k) ?_
    refine Goes.st (U' := T4.setTop (mkF m 121 #[.val (.int p1), .val (.int p2), .val (.int p3), .val (.int p4), .val (.int p5), .val (.int p6), .val (.int (p1 &&& (7 : Int32))), .val (.int (0 : Int32)), .val (.ref b2)] [])) (fun t k => XS.icmpYes X4.here hx rfl (pc0 := 106) (pc' := 121) rfl (hb hby at_106) rfl (flt (by decide : ¬ ((1 : Int32) < (0 : Int32)))).2.2.2 (by decide) (by decide) k) ?_
    refine Goes.st (U' := T4.setTop (mkF m 123 #[.val (.int p1), .val (.int p2), .val (.int p3), .val (.int p4), .val (.int p5), .val (.int p6), .val (.int (p1 &&& (7 : Int32))), .val (.int (0 : Int32)), .val (.ref b2)] [(.int (0 : Int32))])) (fun t k => XS.iload X4.here hx rfl (hb hby at_121) rfl k) ?_
    refine Goes.st (U' := T4.setTop (mkF m 124 #[.val (.int p1), .val (.int p2), .val (.int p3), .val (.int p4), .val (.int p5), .val (.int p6), .val (.int (p1 &&& (7 : Int32))), .val (.int (0 : Int32)), .val (.ref b2)] [(.int (2 : Int32)), (.int (0 : Int32))])) (fun t k => XS.iconst X4.here hx rfl (hb hby at_123) k) ?_
    refine Goes.st (U' := T4.setTop (mkF m 140 #[.val (.int p1), .val (.int p2), .val (.int p3), .val (.int p4), .val (.int p5), .val (.int p6), .val (.int (p1 &&& (7 : Int32))), .val (.int (0 : Int32)), .val (.ref b2)] [])) (fun t k => XS.icmpYes X4.here hx rfl (pc0 := 124) (pc' := 140) rfl (hb hby at_124) rfl (flt (by decide : ¬ ((2 : Int32) < (0 : Int32)))).2.2.2 (by decide) (by decide) k) ?_
    refine Goes.st (U' := T4.setTop (mkF m 142 #[.val (.int p1), .val (.int p2), .val (.int p3), .val (.int p4), .val (.int p5), .val (.int p6), .val (.int (p1 &&& (7 : Int32))), .val (.int (0 : Int32)), .val (.ref b2)] [(.int (0 : Int32))])) (fun t k => XS.iload X4.here hx rfl (hb hby at_140) rfl k) ?_
    refine Goes.st (U' := T4.setTop (mkF m 143 #[.val (.int p1), .val (.int p2), .val (.int p3), .val (.int p4), .val (.int p5), .val (.int p6), .val (.int (p1 &&& (7 : Int32))), .val (.int (0 : Int32)), .val (.ref b2)] [(.int (3 : Int32)), (.int (0 : Int32))])) (fun t k => XS.iconst X4.here hx rfl (hb hby at_142) k) ?_
    refine Goes.st (U' := T4.setTop (mkF m 159 #[.val (.int p1), .val (.int p2), .val (.int p3), .val (.int p4), .val (.int p5), .val (.int p6), .val (.int (p1 &&& (7 : Int32))), .val (.int (0 : Int32)), .val (.ref b2)] [])) (fun t k => XS.icmpYes X4.here hx rfl (pc0 := 143) (pc' := 159) rfl (hb hby at_143) rfl (flt (by decide : ¬ ((3 : Int32) < (0 : Int32)))).2.2.2 (by decide) (by decide) k) ?_
    refine Goes.st (U' := T4.setTop (mkF m 160 #[.val (.int p1), .val (.int p2), .val (.int p3), .val (.int p4), .val (.int p5), .val (.int p6), .val (.int (p1 &&& (7 : Int32))), .val (.int (0 : Int32)), .val (.ref b2)] [(.int (1 : Int32))])) (fun t k => XS.iconst X4.here hx rfl (hb hby at_159) k) ?_
    refine Goes.retZ X4 hx (BodyLoose.notSynchronized Bd) Bd.returns (hb hby at_160) rfl (by decide) (by decide) ?_
    show Q0 Z p1 p2 p3 p4 p5 p6 h0 n0 _ T4.heap _
    rw [e4]
    exact ⟨rfl, N4⟩
  · skip
    refine Goes.st (U' := s₁.setTop (mkF m 14 #[.val (.int p1), .val (.int p2), .val (.int p3), .val (.int p4), .val (.int p5), .val (.int p6), .val (.int (p1 &&& (7 : Int32))), .val (.int (1 : Int32)), .unset] [])) (fun t k => XS.istore X0.here hx rfl (hb hby at_12) rfl (l' := #[.val (.int p1), .val (.int p2), .val (.int p3), .val (.int p4), .val (.int p5), .val (.int p6), .val (.int (p1 &&& (7 : Int32))), .val (.int (1 : Int32)), .unset]) rfl k) ?_
    obtain ⟨T5, h5, X5, e5, E5, A5, D5, -, st5⟩ := newO X0 hx hZ hown (hw _ (List.mem_of_getElem? (i := 1) rfl)) (hw _ (List.mem_of_getElem? (i := 2) rfl)) (hw _ (List.mem_of_getElem? (i := 3) rfl)) e0 (g := (mkF m 14 #[.val (.int p1), .val (.int p2), .val (.int p3), .val (.int p4), .val (.int p5), .val (.int p6), .val (.int (p1 &&& (7 : Int32))), .val (.int (1 : Int32)), .unset] [])) rfl (hb hby at_14) (by decide) (by decide)
    obtain ⟨b5, g5⟩ : ∃ z, z = h0.size := ⟨_, rfl⟩
    rw [← g5] at A5 D5 st5
    have g_b5 : n0 ≤ b5 := Nat.le_trans Z0 (Nat.le_of_eq g5.symm)
    have F_values_b5 : Fld Z h5 b5 "com/example/cosine/cosine/index/IntList" "values" "[I" .null := D5 (Or.inl (hw _ (List.mem_of_getElem? (i := 12) rfl))) (ty := (.array .int)) (by decide)
    have F_size_b5 : Fld Z h5 b5 "com/example/cosine/cosine/index/IntList" "size" "I" (.int (0 : Int32)) := D5 (Or.inl (hw _ (List.mem_of_getElem? (i := 19) rfl))) (ty := .int) (by decide)
    refine Goes.st (U' := T5.setTop (mkF m 17 #[.val (.int p1), .val (.int p2), .val (.int p3), .val (.int p4), .val (.int p5), .val (.int p6), .val (.int (p1 &&& (7 : Int32))), .val (.int (1 : Int32)), .unset] [(.ref b5)])) (fun t k => st5 t k) ?_
    refine Goes.st (U' := T5.setTop (mkF m 18 #[.val (.int p1), .val (.int p2), .val (.int p3), .val (.int p4), .val (.int p5), .val (.int p6), .val (.int (p1 &&& (7 : Int32))), .val (.int (1 : Int32)), .unset] [(.ref b5), (.ref b5)])) (fun t k => XS.dup X5.here hx rfl (hb hby at_17) rfl rfl k) ?_
    refine Goes.st (U' := T5.setTop (mkF m 20 #[.val (.int p1), .val (.int p2), .val (.int p3), .val (.int p4), .val (.int p5), .val (.int p6), .val (.int (p1 &&& (7 : Int32))), .val (.int (1 : Int32)), .unset] [(.int (p1 &&& (7 : Int32))), (.ref b5), (.ref b5)])) (fun t k => XS.iload X5.here hx rfl (hb hby at_18) rfl k) ?_
    obtain ⟨_, _, ⟨T6, L6, k6, n6⟩, -, X6, ⟨Lc6, hQ6, l6, y6, z6⟩, st6⟩ := X5.specialBack hx (y := (⟨"com/example/cosine/cosine/index/IntList", "<init>", "(I)V"⟩ : MethodName)) rfl hown (mvT hZ (hw _ (List.mem_of_getElem? (i := 4) rfl))) (mvT hZ (hw _ (List.mem_of_getElem? (i := 5) rfl))) (mvT hZ (hw _ (List.mem_of_getElem? (i := 6) rfl))) (by decide) (backOf (W := 1) (rm1 l Z a0 hw [] b5 (p1 &&& (7 : Int32)) h5 n0 (Nat.le_trans Z0 E5.1) A5 F_values_b5 F_size_b5 g_b5 (own_cap p1).1 (own_cap p1).2) hZ (hw _ (List.mem_of_getElem? (i := 6) rfl)) (hw _ (List.mem_of_getElem? (i := 3) rfl)) (by decide) (by decide)) (g := (mkF m 20 #[.val (.int p1), .val (.int p2), .val (.int p3), .val (.int p4), .val (.int p5), .val (.int p6), .val (.int (p1 &&& (7 : Int32))), .val (.int (1 : Int32)), .unset] [(.int (p1 &&& (7 : Int32))), (.ref b5), (.ref b5)])) rfl (by rw [hml]; rfl) (Steps.refl _) (a := b5) (argsL := [(.int (p1 &&& (7 : Int32)))]) (rest := [(.ref b5)]) (lenOf pd_3 rfl) rfl (by show 2 * 0 + _ ≤ _; exact Nat.le_of_eq rfl) (hb hby at_20) (fun _ _ => ⟨rfl, e5, (by decide : 1 + 1 ≤ _), (by decide : 2 + 8 ≤ _)⟩)
    dsimp only [Pt.U, Pt.locs, Pt.cells, Pt.slots] at X6 l6 y6 z6 st6 hQ6
    subst l6 y6 z6
    obtain ⟨rfl, N6q, K6, ar6, ka6, I6, g_ar6, u6⟩ := hQ6
    have N6 := Fr.app N0 N6q
    have ne_b5_ar6 : b5 ≠ ar6 := Nat.ne_of_lt (Nat.lt_of_lt_of_le A5.lt u6)
    refine Goes.tr (U' := T6.setTop (mkF m 23 #[.val (.int p1), .val (.int p2), .val (.int p3), .val (.int p4), .val (.int p5), .val (.int p6), .val (.int (p1 &&& (7 : Int32))), .val (.int (1 : Int32)), .unset] [(.ref b5)])) st6 ?_
    refine Goes.st (U' := T6.setTop (mkF m 25 #[.val (.int p1), .val (.int p2), .val (.int p3), .val (.int p4), .val (.int p5), .val (.int p6), .val (.int (p1 &&& (7 : Int32))), .val (.int (1 : Int32)), .val (.ref b5)] [])) (fun t k => XS.astore X6.here hx rfl (hb hby at_23) rfl rfl (l' := #[.val (.int p1), .val (.int p2), .val (.int p3), .val (.int p4), .val (.int p5), .val (.int p6), .val (.int (p1 &&& (7 : Int32))), .val (.int (1 : Int32)), .val (.ref b5)]) rfl k) ?_
    refine Goes.st (U' := T6.setTop (mkF m 27 #[.val (.int p1), .val (.int p2), .val (.int p3), .val (.int p4), .val (.int p5), .val (.int p6), .val (.int (p1 &&& (7 : Int32))), .val (.int (1 : Int32)), .val (.ref b5)] [(.int (1 : Int32))])) (fun t k => XS.iload X6.here hx rfl (hb hby at_25) rfl k) ?_
    refine Goes.st (U' := T6.setTop (mkF m 30 #[.val (.int p1), .val (.int p2), .val (.int p3), .val (.int p4), .val (.int p5), .val (.int p6), .val (.int (p1 &&& (7 : Int32))), .val (.int (1 : Int32)), .val (.ref b5)] [])) (fun t k => XS.ifNo X6.here hx rfl (hb hby at_27) rfl ((if0 _ _).trans (tlt (by decide : (0 : Int32) < (1 : Int32))).2.2.2) k) ?_
    refine Goes.st (U' := T6.setTop (mkF m 32 #[.val (.int p1), .val (.int p2), .val (.int p3), .val (.int p4), .val (.int p5), .val (.int p6), .val (.int (p1 &&& (7 : Int32))), .val (.int (1 : Int32)), .val (.ref b5)] [(.ref b5)])) (fun t k => XS.aload X6.here hx rfl (hb hby at_30) rfl rfl k) ?_
    refine Goes.st (U' := T6.setTop (mkF m 33 #[.val (.int p1), .val (.int p2), .val (.int p3), .val (.int p4), .val (.int p5), .val (.int p6), .val (.int (p1 &&& (7 : Int32))), .val (.int (1 : Int32)), .val (.ref b5)] [(.int p3), (.ref b5)])) (fun t k => XS.iloadN X6.here hx rfl (hb hby at_32) rfl k) ?_
    obtain ⟨cq7, kq7, q7a, q7b, q7c⟩ := isOf hZ rfl I6.1
    obtain ⟨_, _, ⟨T7, L7, k7, n7⟩, -, X7, ⟨Lc7, hQ7, l7, y7, z7⟩, st7⟩ := X6.virtualBack hx (y := (⟨"com/example/cosine/cosine/index/IntList", "add", "(I)V"⟩ : MethodName)) (z := (⟨"com/example/cosine/cosine/index/IntList", "add", "(I)V"⟩ : MethodName)) hown (mvT hZ (hw _ (List.mem_of_getElem? (i := 13) rfl))) (mvT hZ (hw _ (List.mem_of_getElem? (i := 14) rfl))) (notFace_of_selects (args := #[]) (mvT hZ (hw _ (List.mem_of_getElem? (i := 16) rfl)))) (mvT hZ (hw _ (List.mem_of_getElem? (i := 16) rfl))) (mvT hZ (hw _ (List.mem_of_getElem? (i := 15) rfl))) (by decide) (backOf (W := 0) (rm3 l Z a0 hw [] b5 p3 ar6 ka6 (p1 &&& (7 : Int32)) [] T6.heap n0 (Nat.le_trans (Nat.le_trans Z0 E5.1) K6.1) I6 (Nat.le_of_ble_eq_true rfl) g_b5 g_ar6) hZ (hw _ (List.mem_of_getElem? (i := 17) rfl)) (hw _ (List.mem_of_getElem? (i := 3) rfl)) (by decide) (by decide)) q7a q7c (g := (mkF m 33 #[.val (.int p1), .val (.int p2), .val (.int p3), .val (.int p4), .val (.int p5), .val (.int p6), .val (.int (p1 &&& (7 : Int32))), .val (.int (1 : Int32)), .val (.ref b5)] [(.int p3), (.ref b5)])) rfl (by rw [hml]; rfl) (Steps.refl _) (argsL := [(.int p3)]) (rest := []) (lenOf pd_3 rfl) rfl (by show 2 * 0 + _ ≤ _; exact Nat.le_of_eq rfl) (hb hby at_33) (fun _ _ => ⟨rfl, rfl, (by decide : 2 + 1 ≤ _), (by decide : 10 + 8 ≤ _)⟩)
    dsimp only [Pt.U, Pt.locs, Pt.cells, Pt.slots] at X7 l7 y7 z7 st7 hQ7
    subst l7 y7 z7
    obtain ⟨rfl, N7q, K7, ar7, ka7, za7, I7, g_ar7, u7⟩ := hQ7
    have N7 := Fr.app N6 N7q
    have ne_b5_ar7 : b5 ≠ ar7 := I7.2.2.2.2.2.2.2.2
    refine Goes.tr (U' := T7.setTop (mkF m 36 #[.val (.int p1), .val (.int p2), .val (.int p3), .val (.int p4), .val (.int p5), .val (.int p6), .val (.int (p1 &&& (7 : Int32))), .val (.int (1 : Int32)), .val (.ref b5)] [])) st7 ?_
    refine Goes.st (U' := T7.setTop (mkF m 38 #[.val (.int p1), .val (.int p2), .val (.int p3), .val (.int p4), .val (.int p5), .val (.int p6), .val (.int (p1 &&& (7 : Int32))), .val (.int (1 : Int32)), .val (.ref b5)] [(.int (1 : Int32))])) (fun t k => XS.iload X7.here hx rfl (hb hby at_36) rfl k) ?_
    refine Goes.st (U' := T7.setTop (mkF m 39 #[.val (.int p1), .val (.int p2), .val (.int p3), .val (.int p4), .val (.int p5), .val (.int p6), .val (.int (p1 &&& (7 : Int32))), .val (.int (1 : Int32)), .val (.ref b5)] [(.int (1 : Int32)), (.int (1 : Int32))])) (fun t k => XS.iconst X7.here hx rfl (hb hby at_38) k) ?_
    refine Goes.st (U' := T7.setTop (mkF m 48 #[.val (.int p1), .val (.int p2), .val (.int p3), .val (.int p4), .val (.int p5), .val (.int p6), .val (.int (p1 &&& (7 : Int32))), .val (.int (1 : Int32)), .val (.ref b5)] [])) (fun t k => XS.icmpYes X7.here hx rfl (pc0 := 39) (pc' := 48) rfl (hb hby at_39) rfl (flt (by decide : ¬ ((1 : Int32) < (1 : Int32)))).2.2.2 (by decide) (by decide) k) ?_
    refine Goes.st (U' := T7.setTop (mkF m 50 #[.val (.int p1), .val (.int p2), .val (.int p3), .val (.int p4), .val (.int p5), .val (.int p6), .val (.int (p1 &&& (7 : Int32))), .val (.int (1 : Int32)), .val (.ref b5)] [(.int (1 : Int32))])) (fun t k => XS.iload X7.here hx rfl (hb hby at_48) rfl k) ?_
    refine Goes.st (U' := T7.setTop (mkF m 51 #[.val (.int p1), .val (.int p2), .val (.int p3), .val (.int p4), .val (.int p5), .val (.int p6), .val (.int (p1 &&& (7 : Int32))), .val (.int (1 : Int32)), .val (.ref b5)] [(.int (2 : Int32)), (.int (1 : Int32))])) (fun t k => XS.iconst X7.here hx rfl (hb hby at_50) k) ?_
    refine Goes.st (U' := T7.setTop (mkF m 61 #[.val (.int p1), .val (.int p2), .val (.int p3), .val (.int p4), .val (.int p5), .val (.int p6), .val (.int (p1 &&& (7 : Int32))), .val (.int (1 : Int32)), .val (.ref b5)] [])) (fun t k => XS.icmpYes X7.here hx rfl (pc0 := 51) (pc' := 61) rfl (hb hby at_51) rfl (flt (by decide : ¬ ((2 : Int32) < (1 : Int32)))).2.2.2 (by decide) (by decide) k) ?_
    refine Goes.st (U' := T7.setTop (mkF m 63 #[.val (.int p1), .val (.int p2), .val (.int p3), .val (.int p4), .val (.int p5), .val (.int p6), .val (.int (p1 &&& (7 : Int32))), .val (.int (1 : Int32)), .val (.ref b5)] [(.int (1 : Int32))])) (fun t k => XS.iload X7.here hx rfl (hb hby at_61) rfl k) ?_
    refine Goes.st (U' := T7.setTop (mkF m 64 #[.val (.int p1), .val (.int p2), .val (.int p3), .val (.int p4), .val (.int p5), .val (.int p6), .val (.int (p1 &&& (7 : Int32))), .val (.int (1 : Int32)), .val (.ref b5)] [(.int (3 : Int32)), (.int (1 : Int32))])) (fun t k => XS.iconst X7.here hx rfl (hb hby at_63) k) ?_
    refine Goes.st (U' := T7.setTop (mkF m 74 #[.val (.int p1), .val (.int p2), .val (.int p3), .val (.int p4), .val (.int p5), .val (.int p6), .val (.int (p1 &&& (7 : Int32))), .val (.int (1 : Int32)), .val (.ref b5)] [])) (fun t k => XS.icmpYes X7.here hx rfl (pc0 := 64) (pc' := 74) rfl (hb hby at_64) rfl (flt (by decide : ¬ ((3 : Int32) < (1 : Int32)))).2.2.2 (by decide) (by decide) k) ?_
    refine Goes.st (U' := T7.setTop (mkF m 76 #[.val (.int p1), .val (.int p2), .val (.int p3), .val (.int p4), .val (.int p5), .val (.int p6), .val (.int (p1 &&& (7 : Int32))), .val (.int (1 : Int32)), .val (.ref b5)] [(.ref b5)])) (fun t k => XS.aload X7.here hx rfl (hb hby at_74) rfl rfl k) ?_
    obtain ⟨cq8, kq8, q8a, q8b, q8c⟩ := isOf hZ rfl I7.1
    obtain ⟨_, _, ⟨T8, L8, k8, n8⟩, -, X8, ⟨Lc8, hQ8, l8, y8, z8⟩, st8⟩ := X7.virtualBack hx (y := (⟨"com/example/cosine/cosine/index/IntList", "size", "()I"⟩ : MethodName)) (z := (⟨"com/example/cosine/cosine/index/IntList", "size", "()I"⟩ : MethodName)) hown (mvT hZ (hw _ (List.mem_of_getElem? (i := 41) rfl))) (mvT hZ (hw _ (List.mem_of_getElem? (i := 42) rfl))) (notFace_of_selects (args := #[]) (mvT hZ (hw _ (List.mem_of_getElem? (i := 44) rfl)))) (mvT hZ (hw _ (List.mem_of_getElem? (i := 44) rfl))) (mvT hZ (hw _ (List.mem_of_getElem? (i := 43) rfl))) (by decide) (backOf (W := 0) (rm8 l Z a0 hw [] b5 ar7 ka7 za7 [p3] T7.heap n0 (Nat.le_trans (Nat.le_trans (Nat.le_trans Z0 E5.1) K6.1) K7.1) I7) hZ (hw _ (List.mem_of_getElem? (i := 45) rfl)) (hw _ (List.mem_of_getElem? (i := 3) rfl)) (by decide) (by decide)) q8a q8c (g := (mkF m 76 #[.val (.int p1), .val (.int p2), .val (.int p3), .val (.int p4), .val (.int p5), .val (.int p6), .val (.int (p1 &&& (7 : Int32))), .val (.int (1 : Int32)), .val (.ref b5)] [(.ref b5)])) rfl (by rw [hml]; rfl) (Steps.refl _) (argsL := []) (rest := []) (lenOf pd_4 rfl) rfl (by show 2 * 0 + _ ≤ _; exact Nat.le_of_eq rfl) (hb hby at_76) (fun _ _ => ⟨rfl, rfl, (by decide : 3 + 0 ≤ _), (by decide : 18 + 0 ≤ _)⟩)
    dsimp only [Pt.U, Pt.locs, Pt.cells, Pt.slots] at X8 l8 y8 z8 st8 hQ8
    subst l8 y8 z8
    obtain ⟨rfl, N8q, e8⟩ := hQ8
    have N8 := Fr.app N7 N8q
    replace e8 := e8
    refine Goes.tr (U' := T8.setTop (mkF m 79 #[.val (.int p1), .val (.int p2), .val (.int p3), .val (.int p4), .val (.int p5), .val (.int p6), .val (.int (p1 &&& (7 : Int32))), .val (.int (1 : Int32)), .val (.ref b5)] [(.int (1 : Int32))])) st8 ?_
    refine Goes.st (U' := T8.setTop (mkF m 81 #[.val (.int p1), .val (.int p2), .val (.int p3), .val (.int p4), .val (.int p5), .val (.int p6), .val (.int (p1 &&& (7 : Int32))), .val (.int (1 : Int32)), .val (.ref b5)] [(.int (1 : Int32)), (.int (1 : Int32))])) (fun t k => XS.iload X8.here hx rfl (hb hby at_79) rfl k) ?_
    refine Goes.st (U' := T8.setTop (mkF m 86 #[.val (.int p1), .val (.int p2), .val (.int p3), .val (.int p4), .val (.int p5), .val (.int p6), .val (.int (p1 &&& (7 : Int32))), .val (.int (1 : Int32)), .val (.ref b5)] [])) (fun t k => XS.icmpYes X8.here hx rfl (pc0 := 81) (pc' := 86) rfl (hb hby at_81) rfl (teq (rfl : (1 : Int32) = (1 : Int32))).1 (by decide) (by decide) k) ?_
    refine Goes.st (U' := T8.setTop (mkF m 88 #[.val (.int p1), .val (.int p2), .val (.int p3), .val (.int p4), .val (.int p5), .val (.int p6), .val (.int (p1 &&& (7 : Int32))), .val (.int (1 : Int32)), .val (.ref b5)] [(.int (1 : Int32))])) (fun t k => XS.iload X8.here hx rfl (hb hby at_86) rfl k) ?_
    refine Goes.st (U' := T8.setTop (mkF m 91 #[.val (.int p1), .val (.int p2), .val (.int p3), .val (.int p4), .val (.int p5), .val (.int p6), .val (.int (p1 &&& (7 : Int32))), .val (.int (1 : Int32)), .val (.ref b5)] [])) (fun t k => XS.ifNo X8.here hx rfl (hb hby at_88) rfl ((if0 _ _).trans (tlt (by decide : (0 : Int32) < (1 : Int32))).2.2.2) k) ?_
    refine Goes.st (U' := T8.setTop (mkF m 93 #[.val (.int p1), .val (.int p2), .val (.int p3), .val (.int p4), .val (.int p5), .val (.int p6), .val (.int (p1 &&& (7 : Int32))), .val (.int (1 : Int32)), .val (.ref b5)] [(.ref b5)])) (fun t k => XS.aload X8.here hx rfl (hb hby at_91) rfl rfl k) ?_
    refine Goes.st (U' := T8.setTop (mkF m 94 #[.val (.int p1), .val (.int p2), .val (.int p3), .val (.int p4), .val (.int p5), .val (.int p6), .val (.int (p1 &&& (7 : Int32))), .val (.int (1 : Int32)), .val (.ref b5)] [(.int (0 : Int32)), (.ref b5)])) (fun t k => XS.iconst X8.here hx rfl (hb hby at_93) k) ?_
    obtain ⟨cq9, kq9, q9a, q9b, q9c⟩ := isOf hZ e8 I7.1
    obtain ⟨_, _, ⟨T9, L9, k9, n9⟩, -, X9, ⟨Lc9, hQ9, l9, y9, z9⟩, st9⟩ := X8.virtualBack hx (y := (⟨"com/example/cosine/cosine/index/IntList", "get", "(I)I"⟩ : MethodName)) (z := (⟨"com/example/cosine/cosine/index/IntList", "get", "(I)I"⟩ : MethodName)) hown (mvT hZ (hw _ (List.mem_of_getElem? (i := 46) rfl))) (mvT hZ (hw _ (List.mem_of_getElem? (i := 47) rfl))) (notFace_of_selects (args := #[]) (mvT hZ (hw _ (List.mem_of_getElem? (i := 49) rfl)))) (mvT hZ (hw _ (List.mem_of_getElem? (i := 49) rfl))) (mvT hZ (hw _ (List.mem_of_getElem? (i := 48) rfl))) (by decide) (backOf (W := 0) (rm9 l Z a0 hw [] b5 (0 : Int32) ar7 ka7 za7 [p3] p3 T7.heap n0 (Nat.le_trans (Nat.le_trans (Nat.le_trans Z0 E5.1) K6.1) K7.1) I7 (by decide) (Nat.le_of_ble_eq_true rfl) rfl) hZ (hw _ (List.mem_of_getElem? (i := 50) rfl)) (hw _ (List.mem_of_getElem? (i := 3) rfl)) (by decide) (by decide)) q9a q9c (g := (mkF m 94 #[.val (.int p1), .val (.int p2), .val (.int p3), .val (.int p4), .val (.int p5), .val (.int p6), .val (.int (p1 &&& (7 : Int32))), .val (.int (1 : Int32)), .val (.ref b5)] [(.int (0 : Int32)), (.ref b5)])) rfl (by rw [hml]; rfl) (Steps.refl _) (argsL := [(.int (0 : Int32))]) (rest := []) (lenOf pd_5 rfl) rfl (by show 2 * 0 + _ ≤ _; exact Nat.le_of_eq rfl) (hb hby at_94) (fun _ _ => ⟨rfl, e8, (by decide : 3 + 0 ≤ _), (by decide : 18 + 0 ≤ _)⟩)
    dsimp only [Pt.U, Pt.locs, Pt.cells, Pt.slots] at X9 l9 y9 z9 st9 hQ9
    subst l9 y9 z9
    obtain ⟨rfl, N9q, e9⟩ := hQ9
    have N9 := Fr.app N8 N9q
    replace e9 := e9
    refine Goes.tr (U' := T9.setTop (mkF m 97 #[.val (.int p1), .val (.int p2), .val (.int p3), .val (.int p4), .val (.int p5), .val (.int p6), .val (.int (p1 &&& (7 : Int32))), .val (.int (1 : Int32)), .val (.ref b5)] [(.int p3)])) st9 ?_
    refine Goes.st (U' := T9.setTop (mkF m 98 #[.val (.int p1), .val (.int p2), .val (.int p3), .val (.int p4), .val (.int p5), .val (.int p6), .val (.int (p1 &&& (7 : Int32))), .val (.int (1 : Int32)), .val (.ref b5)] [(.int p3), (.int p3)])) (fun t k => XS.iloadN X9.here hx rfl (hb hby at_97) rfl k) ?_
    refine Goes.st (U' := T9.setTop (mkF m 103 #[.val (.int p1), .val (.int p2), .val (.int p3), .val (.int p4), .val (.int p5), .val (.int p6), .val (.int (p1 &&& (7 : Int32))), .val (.int (1 : Int32)), .val (.ref b5)] [])) (fun t k => XS.icmpYes X9.here hx rfl (pc0 := 98) (pc' := 103) rfl (hb hby at_98) rfl (teq (rfl : p3 = p3)).1 (by decide) (by decide) k) ?_
    refine Goes.st (U' := T9.setTop (mkF m 105 #[.val (.int p1), .val (.int p2), .val (.int p3), .val (.int p4), .val (.int p5), .val (.int p6), .val (.int (p1 &&& (7 : Int32))), .val (.int (1 : Int32)), .val (.ref b5)] [(.int (1 : Int32))])) (fun t k => XS.iload X9.here hx rfl (hb hby at_103) rfl k) ?_
    refine Goes.st (U' := T9.setTop (mkF m 106 #[.val (.int p1), .val (.int p2), .val (.int p3), .val (.int p4), .val (.int p5), .val (.int p6), .val (.int (p1 &&& (7 : Int32))), .val (.int (1 : Int32)), .val (.ref b5)] [(.int (1 : Int32)), (.int (1 : Int32))])) (fun t k => XS.iconst X9.here hx rfl (hb hby at_105) k) ?_
    refine Goes.st (U' := T9.setTop (mkF m 121 #[.val (.int p1), .val (.int p2), .val (.int p3), .val (.int p4), .val (.int p5), .val (.int p6), .val (.int (p1 &&& (7 : Int32))), .val (.int (1 : Int32)), .val (.ref b5)] [])) (fun t k => XS.icmpYes X9.here hx rfl (pc0 := 106) (pc' := 121) rfl (hb hby at_106) rfl (flt (by decide : ¬ ((1 : Int32) < (1 : Int32)))).2.2.2 (by decide) (by decide) k) ?_
    refine Goes.st (U' := T9.setTop (mkF m 123 #[.val (.int p1), .val (.int p2), .val (.int p3), .val (.int p4), .val (.int p5), .val (.int p6), .val (.int (p1 &&& (7 : Int32))), .val (.int (1 : Int32)), .val (.ref b5)] [(.int (1 : Int32))])) (fun t k => XS.iload X9.here hx rfl (hb hby at_121) rfl k) ?_
    refine Goes.st (U' := T9.setTop (mkF m 124 #[.val (.int p1), .val (.int p2), .val (.int p3), .val (.int p4), .val (.int p5), .val (.int p6), .val (.int (p1 &&& (7 : Int32))), .val (.int (1 : Int32)), .val (.ref b5)] [(.int (2 : Int32)), (.int (1 : Int32))])) (fun t k => XS.iconst X9.here hx rfl (hb hby at_123) k) ?_
    refine Goes.st (U' := T9.setTop (mkF m 140 #[.val (.int p1), .val (.int p2), .val (.int p3), .val (.int p4), .val (.int p5), .val (.int p6), .val (.int (p1 &&& (7 : Int32))), .val (.int (1 : Int32)), .val (.ref b5)] [])) (fun t k => XS.icmpYes X9.here hx rfl (pc0 := 124) (pc' := 140) rfl (hb hby at_124) rfl (flt (by decide : ¬ ((2 : Int32) < (1 : Int32)))).2.2.2 (by decide) (by decide) k) ?_
    refine Goes.st (U' := T9.setTop (mkF m 142 #[.val (.int p1), .val (.int p2), .val (.int p3), .val (.int p4), .val (.int p5), .val (.int p6), .val (.int (p1 &&& (7 : Int32))), .val (.int (1 : Int32)), .val (.ref b5)] [(.int (1 : Int32))])) (fun t k => XS.iload X9.here hx rfl (hb hby at_140) rfl k) ?_
    refine Goes.st (U' := T9.setTop (mkF m 143 #[.val (.int p1), .val (.int p2), .val (.int p3), .val (.int p4), .val (.int p5), .val (.int p6), .val (.int (p1 &&& (7 : Int32))), .val (.int (1 : Int32)), .val (.ref b5)] [(.int (3 : Int32)), (.int (1 : Int32))])) (fun t k => XS.iconst X9.here hx rfl (hb hby at_142) k) ?_
    refine Goes.st (U' := T9.setTop (mkF m 159 #[.val (.int p1), .val (.int p2), .val (.int p3), .val (.int p4), .val (.int p5), .val (.int p6), .val (.int (p1 &&& (7 : Int32))), .val (.int (1 : Int32)), .val (.ref b5)] [])) (fun t k => XS.icmpYes X9.here hx rfl (pc0 := 143) (pc' := 159) rfl (hb hby at_143) rfl (flt (by decide : ¬ ((3 : Int32) < (1 : Int32)))).2.2.2 (by decide) (by decide) k) ?_
    refine Goes.st (U' := T9.setTop (mkF m 160 #[.val (.int p1), .val (.int p2), .val (.int p3), .val (.int p4), .val (.int p5), .val (.int p6), .val (.int (p1 &&& (7 : Int32))), .val (.int (1 : Int32)), .val (.ref b5)] [(.int (1 : Int32))])) (fun t k => XS.iconst X9.here hx rfl (hb hby at_159) k) ?_
    refine Goes.retZ X9 hx (BodyLoose.notSynchronized Bd) Bd.returns (hb hby at_160) rfl (by decide) (by decide) ?_
    show Q0 Z p1 p2 p3 p4 p5 p6 h0 n0 _ T9.heap _
    rw [e9]
    exact ⟨rfl, N9⟩
  · skip
    refine Goes.st (U' := s₁.setTop (mkF m 14 #[.val (.int p1), .val (.int p2), .val (.int p3), .val (.int p4), .val (.int p5), .val (.int p6), .val (.int (p1 &&& (7 : Int32))), .val (.int (2 : Int32)), .unset] [])) (fun t k => XS.istore X0.here hx rfl (hb hby at_12) rfl (l' := #[.val (.int p1), .val (.int p2), .val (.int p3), .val (.int p4), .val (.int p5), .val (.int p6), .val (.int (p1 &&& (7 : Int32))), .val (.int (2 : Int32)), .unset]) rfl k) ?_
    obtain ⟨T10, h10, X10, e10, E10, A10, D10, -, st10⟩ := newO X0 hx hZ hown (hw _ (List.mem_of_getElem? (i := 1) rfl)) (hw _ (List.mem_of_getElem? (i := 2) rfl)) (hw _ (List.mem_of_getElem? (i := 3) rfl)) e0 (g := (mkF m 14 #[.val (.int p1), .val (.int p2), .val (.int p3), .val (.int p4), .val (.int p5), .val (.int p6), .val (.int (p1 &&& (7 : Int32))), .val (.int (2 : Int32)), .unset] [])) rfl (hb hby at_14) (by decide) (by decide)
    obtain ⟨b10, g10⟩ : ∃ z, z = h0.size := ⟨_, rfl⟩
    rw [← g10] at A10 D10 st10
    have g_b10 : n0 ≤ b10 := Nat.le_trans Z0 (Nat.le_of_eq g10.symm)
    have F_values_b10 : Fld Z h10 b10 "com/example/cosine/cosine/index/IntList" "values" "[I" .null := D10 (Or.inl (hw _ (List.mem_of_getElem? (i := 12) rfl))) (ty := (.array .int)) (by decide)
    have F_size_b10 : Fld Z h10 b10 "com/example/cosine/cosine/index/IntList" "size" "I" (.int (0 : Int32)) := D10 (Or.inl (hw _ (List.mem_of_getElem? (i := 19) rfl))) (ty := .int) (by decide)
    refine Goes.st (U' := T10.setTop (mkF m 17 #[.val (.int p1), .val (.int p2), .val (.int p3), .val (.int p4), .val (.int p5), .val (.int p6), .val (.int (p1 &&& (7 : Int32))), .val (.int (2 : Int32)), .unset] [(.ref b10)])) (fun t k => st10 t k) ?_
    refine Goes.st (U' := T10.setTop (mkF m 18 #[.val (.int p1), .val (.int p2), .val (.int p3), .val (.int p4), .val (.int p5), .val (.int p6), .val (.int (p1 &&& (7 : Int32))), .val (.int (2 : Int32)), .unset] [(.ref b10), (.ref b10)])) (fun t k => XS.dup X10.here hx rfl (hb hby at_17) rfl rfl k) ?_
    refine Goes.st (U' := T10.setTop (mkF m 20 #[.val (.int p1), .val (.int p2), .val (.int p3), .val (.int p4), .val (.int p5), .val (.int p6), .val (.int (p1 &&& (7 : Int32))), .val (.int (2 : Int32)), .unset] [(.int (p1 &&& (7 : Int32))), (.ref b10), (.ref b10)])) (fun t k => XS.iload X10.here hx rfl (hb hby at_18) rfl k) ?_
    obtain ⟨_, _, ⟨T11, L11, k11, n11⟩, -, X11, ⟨Lc11, hQ11, l11, y11, z11⟩, st11⟩ := X10.specialBack hx (y := (⟨"com/example/cosine/cosine/index/IntList", "<init>", "(I)V"⟩ : MethodName)) rfl hown (mvT hZ (hw _ (List.mem_of_getElem? (i := 4) rfl))) (mvT hZ (hw _ (List.mem_of_getElem? (i := 5) rfl))) (mvT hZ (hw _ (List.mem_of_getElem? (i := 6) rfl))) (by decide) (backOf (W := 1) (rm1 l Z a0 hw [] b10 (p1 &&& (7 : Int32)) h10 n0 (Nat.le_trans Z0 E10.1) A10 F_values_b10 F_size_b10 g_b10 (own_cap p1).1 (own_cap p1).2) hZ (hw _ (List.mem_of_getElem? (i := 6) rfl)) (hw _ (List.mem_of_getElem? (i := 3) rfl)) (by decide) (by decide)) (g := (mkF m 20 #[.val (.int p1), .val (.int p2), .val (.int p3), .val (.int p4), .val (.int p5), .val (.int p6), .val (.int (p1 &&& (7 : Int32))), .val (.int (2 : Int32)), .unset] [(.int (p1 &&& (7 : Int32))), (.ref b10), (.ref b10)])) rfl (by rw [hml]; rfl) (Steps.refl _) (a := b10) (argsL := [(.int (p1 &&& (7 : Int32)))]) (rest := [(.ref b10)]) (lenOf pd_3 rfl) rfl (by show 2 * 0 + _ ≤ _; exact Nat.le_of_eq rfl) (hb hby at_20) (fun _ _ => ⟨rfl, e10, (by decide : 1 + 1 ≤ _), (by decide : 2 + 8 ≤ _)⟩)
    dsimp only [Pt.U, Pt.locs, Pt.cells, Pt.slots] at X11 l11 y11 z11 st11 hQ11
    subst l11 y11 z11
    obtain ⟨rfl, N11q, K11, ar11, ka11, I11, g_ar11, u11⟩ := hQ11
    have N11 := Fr.app N0 N11q
    have ne_b10_ar11 : b10 ≠ ar11 := Nat.ne_of_lt (Nat.lt_of_lt_of_le A10.lt u11)
    refine Goes.tr (U' := T11.setTop (mkF m 23 #[.val (.int p1), .val (.int p2), .val (.int p3), .val (.int p4), .val (.int p5), .val (.int p6), .val (.int (p1 &&& (7 : Int32))), .val (.int (2 : Int32)), .unset] [(.ref b10)])) st11 ?_
    refine Goes.st (U' := T11.setTop (mkF m 25 #[.val (.int p1), .val (.int p2), .val (.int p3), .val (.int p4), .val (.int p5), .val (.int p6), .val (.int (p1 &&& (7 : Int32))), .val (.int (2 : Int32)), .val (.ref b10)] [])) (fun t k => XS.astore X11.here hx rfl (hb hby at_23) rfl rfl (l' := #[.val (.int p1), .val (.int p2), .val (.int p3), .val (.int p4), .val (.int p5), .val (.int p6), .val (.int (p1 &&& (7 : Int32))), .val (.int (2 : Int32)), .val (.ref b10)]) rfl k) ?_
    refine Goes.st (U' := T11.setTop (mkF m 27 #[.val (.int p1), .val (.int p2), .val (.int p3), .val (.int p4), .val (.int p5), .val (.int p6), .val (.int (p1 &&& (7 : Int32))), .val (.int (2 : Int32)), .val (.ref b10)] [(.int (2 : Int32))])) (fun t k => XS.iload X11.here hx rfl (hb hby at_25) rfl k) ?_
    refine Goes.st (U' := T11.setTop (mkF m 30 #[.val (.int p1), .val (.int p2), .val (.int p3), .val (.int p4), .val (.int p5), .val (.int p6), .val (.int (p1 &&& (7 : Int32))), .val (.int (2 : Int32)), .val (.ref b10)] [])) (fun t k => XS.ifNo X11.here hx rfl (hb hby at_27) rfl ((if0 _ _).trans (tlt (by decide : (0 : Int32) < (2 : Int32))).2.2.2) k) ?_
    refine Goes.st (U' := T11.setTop (mkF m 32 #[.val (.int p1), .val (.int p2), .val (.int p3), .val (.int p4), .val (.int p5), .val (.int p6), .val (.int (p1 &&& (7 : Int32))), .val (.int (2 : Int32)), .val (.ref b10)] [(.ref b10)])) (fun t k => XS.aload X11.here hx rfl (hb hby at_30) rfl rfl k) ?_
    refine Goes.st (U' := T11.setTop (mkF m 33 #[.val (.int p1), .val (.int p2), .val (.int p3), .val (.int p4), .val (.int p5), .val (.int p6), .val (.int (p1 &&& (7 : Int32))), .val (.int (2 : Int32)), .val (.ref b10)] [(.int p3), (.ref b10)])) (fun t k => XS.iloadN X11.here hx rfl (hb hby at_32) rfl k) ?_
    obtain ⟨cq12, kq12, q12a, q12b, q12c⟩ := isOf hZ rfl I11.1
    obtain ⟨_, _, ⟨T12, L12, k12, n12⟩, -, X12, ⟨Lc12, hQ12, l12, y12, z12⟩, st12⟩ := X11.virtualBack hx (y := (⟨"com/example/cosine/cosine/index/IntList", "add", "(I)V"⟩ : MethodName)) (z := (⟨"com/example/cosine/cosine/index/IntList", "add", "(I)V"⟩ : MethodName)) hown (mvT hZ (hw _ (List.mem_of_getElem? (i := 13) rfl))) (mvT hZ (hw _ (List.mem_of_getElem? (i := 14) rfl))) (notFace_of_selects (args := #[]) (mvT hZ (hw _ (List.mem_of_getElem? (i := 16) rfl)))) (mvT hZ (hw _ (List.mem_of_getElem? (i := 16) rfl))) (mvT hZ (hw _ (List.mem_of_getElem? (i := 15) rfl))) (by decide) (backOf (W := 0) (rm3 l Z a0 hw [] b10 p3 ar11 ka11 (p1 &&& (7 : Int32)) [] T11.heap n0 (Nat.le_trans (Nat.le_trans Z0 E10.1) K11.1) I11 (Nat.le_of_ble_eq_true rfl) g_b10 g_ar11) hZ (hw _ (List.mem_of_getElem? (i := 17) rfl)) (hw _ (List.mem_of_getElem? (i := 3) rfl)) (by decide) (by decide)) q12a q12c (g := (mkF m 33 #[.val (.int p1), .val (.int p2), .val (.int p3), .val (.int p4), .val (.int p5), .val (.int p6), .val (.int (p1 &&& (7 : Int32))), .val (.int (2 : Int32)), .val (.ref b10)] [(.int p3), (.ref b10)])) rfl (by rw [hml]; rfl) (Steps.refl _) (argsL := [(.int p3)]) (rest := []) (lenOf pd_3 rfl) rfl (by show 2 * 0 + _ ≤ _; exact Nat.le_of_eq rfl) (hb hby at_33) (fun _ _ => ⟨rfl, rfl, (by decide : 2 + 1 ≤ _), (by decide : 10 + 8 ≤ _)⟩)
    dsimp only [Pt.U, Pt.locs, Pt.cells, Pt.slots] at X12 l12 y12 z12 st12 hQ12
    subst l12 y12 z12
    obtain ⟨rfl, N12q, K12, ar12, ka12, za12, I12, g_ar12, u12⟩ := hQ12
    have N12 := Fr.app N11 N12q
    have ne_b10_ar12 : b10 ≠ ar12 := I12.2.2.2.2.2.2.2.2
    refine Goes.tr (U' := T12.setTop (mkF m 36 #[.val (.int p1), .val (.int p2), .val (.int p3), .val (.int p4), .val (.int p5), .val (.int p6), .val (.int (p1 &&& (7 : Int32))), .val (.int (2 : Int32)), .val (.ref b10)] [])) st12 ?_
    refine Goes.st (U' := T12.setTop (mkF m 38 #[.val (.int p1), .val (.int p2), .val (.int p3), .val (.int p4), .val (.int p5), .val (.int p6), .val (.int (p1 &&& (7 : Int32))), .val (.int (2 : Int32)), .val (.ref b10)] [(.int (2 : Int32))])) (fun t k => XS.iload X12.here hx rfl (hb hby at_36) rfl k) ?_
    refine Goes.st (U' := T12.setTop (mkF m 39 #[.val (.int p1), .val (.int p2), .val (.int p3), .val (.int p4), .val (.int p5), .val (.int p6), .val (.int (p1 &&& (7 : Int32))), .val (.int (2 : Int32)), .val (.ref b10)] [(.int (1 : Int32)), (.int (2 : Int32))])) (fun t k => XS.iconst X12.here hx rfl (hb hby at_38) k) ?_
    refine Goes.st (U' := T12.setTop (mkF m 42 #[.val (.int p1), .val (.int p2), .val (.int p3), .val (.int p4), .val (.int p5), .val (.int p6), .val (.int (p1 &&& (7 : Int32))), .val (.int (2 : Int32)), .val (.ref b10)] [])) (fun t k => XS.icmpNo X12.here hx rfl (hb hby at_39) rfl (tlt (by decide : (1 : Int32) < (2 : Int32))).2.2.2 k) ?_
    refine Goes.st (U' := T12.setTop (mkF m 44 #[.val (.int p1), .val (.int p2), .val (.int p3), .val (.int p4), .val (.int p5), .val (.int p6), .val (.int (p1 &&& (7 : Int32))), .val (.int (2 : Int32)), .val (.ref b10)] [(.ref b10)])) (fun t k => XS.aload X12.here hx rfl (hb hby at_42) rfl rfl k) ?_
    refine Goes.st (U' := T12.setTop (mkF m 45 #[.val (.int p1), .val (.int p2), .val (.int p3), .val (.int p4), .val (.int p5), .val (.int p6), .val (.int (p1 &&& (7 : Int32))), .val (.int (2 : Int32)), .val (.ref b10)] [(.int p4), (.ref b10)])) (fun t k => XS.iloadN X12.here hx rfl (hb hby at_44) rfl k) ?_
    obtain ⟨cq13, kq13, q13a, q13b, q13c⟩ := isOf hZ rfl I12.1
    obtain ⟨_, _, ⟨T13, L13, k13, n13⟩, -, X13, ⟨Lc13, hQ13, l13, y13, z13⟩, st13⟩ := X12.virtualBack hx (y := (⟨"com/example/cosine/cosine/index/IntList", "add", "(I)V"⟩ : MethodName)) (z := (⟨"com/example/cosine/cosine/index/IntList", "add", "(I)V"⟩ : MethodName)) hown (mvT hZ (hw _ (List.mem_of_getElem? (i := 13) rfl))) (mvT hZ (hw _ (List.mem_of_getElem? (i := 14) rfl))) (notFace_of_selects (args := #[]) (mvT hZ (hw _ (List.mem_of_getElem? (i := 16) rfl)))) (mvT hZ (hw _ (List.mem_of_getElem? (i := 16) rfl))) (mvT hZ (hw _ (List.mem_of_getElem? (i := 15) rfl))) (by decide) (backOf (W := 0) (rm3 l Z a0 hw [] b10 p4 ar12 ka12 za12 [p3] T12.heap n0 (Nat.le_trans (Nat.le_trans (Nat.le_trans Z0 E10.1) K11.1) K12.1) I12 (Nat.le_of_ble_eq_true rfl) g_b10 g_ar12) hZ (hw _ (List.mem_of_getElem? (i := 17) rfl)) (hw _ (List.mem_of_getElem? (i := 3) rfl)) (by decide) (by decide)) q13a q13c (g := (mkF m 45 #[.val (.int p1), .val (.int p2), .val (.int p3), .val (.int p4), .val (.int p5), .val (.int p6), .val (.int (p1 &&& (7 : Int32))), .val (.int (2 : Int32)), .val (.ref b10)] [(.int p4), (.ref b10)])) rfl (by rw [hml]; rfl) (Steps.refl _) (argsL := [(.int p4)]) (rest := []) (lenOf pd_3 rfl) rfl (by show 2 * 0 + _ ≤ _; exact Nat.le_of_eq rfl) (hb hby at_45) (fun _ _ => ⟨rfl, rfl, (by decide : 3 + 1 ≤ _), (by decide : 18 + 8 ≤ _)⟩)
    dsimp only [Pt.U, Pt.locs, Pt.cells, Pt.slots] at X13 l13 y13 z13 st13 hQ13
    subst l13 y13 z13
    obtain ⟨rfl, N13q, K13, ar13, ka13, za13, I13, g_ar13, u13⟩ := hQ13
    have N13 := Fr.app N12 N13q
    have ne_b10_ar13 : b10 ≠ ar13 := I13.2.2.2.2.2.2.2.2
    refine Goes.tr (U' := T13.setTop (mkF m 48 #[.val (.int p1), .val (.int p2), .val (.int p3), .val (.int p4), .val (.int p5), .val (.int p6), .val (.int (p1 &&& (7 : Int32))), .val (.int (2 : Int32)), .val (.ref b10)] [])) st13 ?_
    refine Goes.st (U' := T13.setTop (mkF m 50 #[.val (.int p1), .val (.int p2), .val (.int p3), .val (.int p4), .val (.int p5), .val (.int p6), .val (.int (p1 &&& (7 : Int32))), .val (.int (2 : Int32)), .val (.ref b10)] [(.int (2 : Int32))])) (fun t k => XS.iload X13.here hx rfl (hb hby at_48) rfl k) ?_
    refine Goes.st (U' := T13.setTop (mkF m 51 #[.val (.int p1), .val (.int p2), .val (.int p3), .val (.int p4), .val (.int p5), .val (.int p6), .val (.int (p1 &&& (7 : Int32))), .val (.int (2 : Int32)), .val (.ref b10)] [(.int (2 : Int32)), (.int (2 : Int32))])) (fun t k => XS.iconst X13.here hx rfl (hb hby at_50) k) ?_
    refine Goes.st (U' := T13.setTop (mkF m 61 #[.val (.int p1), .val (.int p2), .val (.int p3), .val (.int p4), .val (.int p5), .val (.int p6), .val (.int (p1 &&& (7 : Int32))), .val (.int (2 : Int32)), .val (.ref b10)] [])) (fun t k => XS.icmpYes X13.here hx rfl (pc0 := 51) (pc' := 61) rfl (hb hby at_51) rfl (flt (by decide : ¬ ((2 : Int32) < (2 : Int32)))).2.2.2 (by decide) (by decide) k) ?_
    refine Goes.st (U' := T13.setTop (mkF m 63 #[.val (.int p1), .val (.int p2), .val (.int p3), .val (.int p4), .val (.int p5), .val (.int p6), .val (.int (p1 &&& (7 : Int32))), .val (.int (2 : Int32)), .val (.ref b10)] [(.int (2 : Int32))])) (fun t k => XS.iload X13.here hx rfl (hb hby at_61) rfl k) ?_
    refine Goes.st (U' := T13.setTop (mkF m 64 #[.val (.int p1), .val (.int p2), .val (.int p3), .val (.int p4), .val (.int p5), .val (.int p6), .val (.int (p1 &&& (7 : Int32))), .val (.int (2 : Int32)), .val (.ref b10)] [(.int (3 : Int32)), (.int (2 : Int32))])) (fun t k => XS.iconst X13.here hx rfl (hb hby at_63) k) ?_
    refine Goes.st (U' := T13.setTop (mkF m 74 #[.val (.int p1), .val (.int p2), .val (.int p3), .val (.int p4), .val (.int p5), .val (.int p6), .val (.int (p1 &&& (7 : Int32))), .val (.int (2 : Int32)), .val (.ref b10)] [])) (fun t k => XS.icmpYes X13.here hx rfl (pc0 := 64) (pc' := 74) rfl (hb hby at_64) rfl (flt (by decide : ¬ ((3 : Int32) < (2 : Int32)))).2.2.2 (by decide) (by decide) k) ?_
    refine Goes.st (U' := T13.setTop (mkF m 76 #[.val (.int p1), .val (.int p2), .val (.int p3), .val (.int p4), .val (.int p5), .val (.int p6), .val (.int (p1 &&& (7 : Int32))), .val (.int (2 : Int32)), .val (.ref b10)] [(.ref b10)])) (fun t k => XS.aload X13.here hx rfl (hb hby at_74) rfl rfl k) ?_
    obtain ⟨cq14, kq14, q14a, q14b, q14c⟩ := isOf hZ rfl I13.1
    obtain ⟨_, _, ⟨T14, L14, k14, n14⟩, -, X14, ⟨Lc14, hQ14, l14, y14, z14⟩, st14⟩ := X13.virtualBack hx (y := (⟨"com/example/cosine/cosine/index/IntList", "size", "()I"⟩ : MethodName)) (z := (⟨"com/example/cosine/cosine/index/IntList", "size", "()I"⟩ : MethodName)) hown (mvT hZ (hw _ (List.mem_of_getElem? (i := 41) rfl))) (mvT hZ (hw _ (List.mem_of_getElem? (i := 42) rfl))) (notFace_of_selects (args := #[]) (mvT hZ (hw _ (List.mem_of_getElem? (i := 44) rfl)))) (mvT hZ (hw _ (List.mem_of_getElem? (i := 44) rfl))) (mvT hZ (hw _ (List.mem_of_getElem? (i := 43) rfl))) (by decide) (backOf (W := 0) (rm8 l Z a0 hw [] b10 ar13 ka13 za13 [p3, p4] T13.heap n0 (Nat.le_trans (Nat.le_trans (Nat.le_trans (Nat.le_trans Z0 E10.1) K11.1) K12.1) K13.1) I13) hZ (hw _ (List.mem_of_getElem? (i := 45) rfl)) (hw _ (List.mem_of_getElem? (i := 3) rfl)) (by decide) (by decide)) q14a q14c (g := (mkF m 76 #[.val (.int p1), .val (.int p2), .val (.int p3), .val (.int p4), .val (.int p5), .val (.int p6), .val (.int (p1 &&& (7 : Int32))), .val (.int (2 : Int32)), .val (.ref b10)] [(.ref b10)])) rfl (by rw [hml]; rfl) (Steps.refl _) (argsL := []) (rest := []) (lenOf pd_4 rfl) rfl (by show 2 * 0 + _ ≤ _; exact Nat.le_of_eq rfl) (hb hby at_76) (fun _ _ => ⟨rfl, rfl, (by decide : 4 + 0 ≤ _), (by decide : 26 + 0 ≤ _)⟩)
    dsimp only [Pt.U, Pt.locs, Pt.cells, Pt.slots] at X14 l14 y14 z14 st14 hQ14
    subst l14 y14 z14
    obtain ⟨rfl, N14q, e14⟩ := hQ14
    have N14 := Fr.app N13 N14q
    replace e14 := e14
    refine Goes.tr (U' := T14.setTop (mkF m 79 #[.val (.int p1), .val (.int p2), .val (.int p3), .val (.int p4), .val (.int p5), .val (.int p6), .val (.int (p1 &&& (7 : Int32))), .val (.int (2 : Int32)), .val (.ref b10)] [(.int (2 : Int32))])) st14 ?_
    refine Goes.st (U' := T14.setTop (mkF m 81 #[.val (.int p1), .val (.int p2), .val (.int p3), .val (.int p4), .val (.int p5), .val (.int p6), .val (.int (p1 &&& (7 : Int32))), .val (.int (2 : Int32)), .val (.ref b10)] [(.int (2 : Int32)), (.int (2 : Int32))])) (fun t k => XS.iload X14.here hx rfl (hb hby at_79) rfl k) ?_
    refine Goes.st (U' := T14.setTop (mkF m 86 #[.val (.int p1), .val (.int p2), .val (.int p3), .val (.int p4), .val (.int p5), .val (.int p6), .val (.int (p1 &&& (7 : Int32))), .val (.int (2 : Int32)), .val (.ref b10)] [])) (fun t k => XS.icmpYes X14.here hx rfl (pc0 := 81) (pc' := 86) rfl (hb hby at_81) rfl (teq (rfl : (2 : Int32) = (2 : Int32))).1 (by decide) (by decide) k) ?_
    refine Goes.st (U' := T14.setTop (mkF m 88 #[.val (.int p1), .val (.int p2), .val (.int p3), .val (.int p4), .val (.int p5), .val (.int p6), .val (.int (p1 &&& (7 : Int32))), .val (.int (2 : Int32)), .val (.ref b10)] [(.int (2 : Int32))])) (fun t k => XS.iload X14.here hx rfl (hb hby at_86) rfl k) ?_
    refine Goes.st (U' := T14.setTop (mkF m 91 #[.val (.int p1), .val (.int p2), .val (.int p3), .val (.int p4), .val (.int p5), .val (.int p6), .val (.int (p1 &&& (7 : Int32))), .val (.int (2 : Int32)), .val (.ref b10)] [])) (fun t k => XS.ifNo X14.here hx rfl (hb hby at_88) rfl ((if0 _ _).trans (tlt (by decide : (0 : Int32) < (2 : Int32))).2.2.2) k) ?_
    refine Goes.st (U' := T14.setTop (mkF m 93 #[.val (.int p1), .val (.int p2), .val (.int p3), .val (.int p4), .val (.int p5), .val (.int p6), .val (.int (p1 &&& (7 : Int32))), .val (.int (2 : Int32)), .val (.ref b10)] [(.ref b10)])) (fun t k => XS.aload X14.here hx rfl (hb hby at_91) rfl rfl k) ?_
    refine Goes.st (U' := T14.setTop (mkF m 94 #[.val (.int p1), .val (.int p2), .val (.int p3), .val (.int p4), .val (.int p5), .val (.int p6), .val (.int (p1 &&& (7 : Int32))), .val (.int (2 : Int32)), .val (.ref b10)] [(.int (0 : Int32)), (.ref b10)])) (fun t k => XS.iconst X14.here hx rfl (hb hby at_93) k) ?_
    obtain ⟨cq15, kq15, q15a, q15b, q15c⟩ := isOf hZ e14 I13.1
    obtain ⟨_, _, ⟨T15, L15, k15, n15⟩, -, X15, ⟨Lc15, hQ15, l15, y15, z15⟩, st15⟩ := X14.virtualBack hx (y := (⟨"com/example/cosine/cosine/index/IntList", "get", "(I)I"⟩ : MethodName)) (z := (⟨"com/example/cosine/cosine/index/IntList", "get", "(I)I"⟩ : MethodName)) hown (mvT hZ (hw _ (List.mem_of_getElem? (i := 46) rfl))) (mvT hZ (hw _ (List.mem_of_getElem? (i := 47) rfl))) (notFace_of_selects (args := #[]) (mvT hZ (hw _ (List.mem_of_getElem? (i := 49) rfl)))) (mvT hZ (hw _ (List.mem_of_getElem? (i := 49) rfl))) (mvT hZ (hw _ (List.mem_of_getElem? (i := 48) rfl))) (by decide) (backOf (W := 0) (rm9 l Z a0 hw [] b10 (0 : Int32) ar13 ka13 za13 [p3, p4] p3 T13.heap n0 (Nat.le_trans (Nat.le_trans (Nat.le_trans (Nat.le_trans Z0 E10.1) K11.1) K12.1) K13.1) I13 (by decide) (Nat.le_of_ble_eq_true rfl) rfl) hZ (hw _ (List.mem_of_getElem? (i := 50) rfl)) (hw _ (List.mem_of_getElem? (i := 3) rfl)) (by decide) (by decide)) q15a q15c (g := (mkF m 94 #[.val (.int p1), .val (.int p2), .val (.int p3), .val (.int p4), .val (.int p5), .val (.int p6), .val (.int (p1 &&& (7 : Int32))), .val (.int (2 : Int32)), .val (.ref b10)] [(.int (0 : Int32)), (.ref b10)])) rfl (by rw [hml]; rfl) (Steps.refl _) (argsL := [(.int (0 : Int32))]) (rest := []) (lenOf pd_5 rfl) rfl (by show 2 * 0 + _ ≤ _; exact Nat.le_of_eq rfl) (hb hby at_94) (fun _ _ => ⟨rfl, e14, (by decide : 4 + 0 ≤ _), (by decide : 26 + 0 ≤ _)⟩)
    dsimp only [Pt.U, Pt.locs, Pt.cells, Pt.slots] at X15 l15 y15 z15 st15 hQ15
    subst l15 y15 z15
    obtain ⟨rfl, N15q, e15⟩ := hQ15
    have N15 := Fr.app N14 N15q
    replace e15 := e15
    refine Goes.tr (U' := T15.setTop (mkF m 97 #[.val (.int p1), .val (.int p2), .val (.int p3), .val (.int p4), .val (.int p5), .val (.int p6), .val (.int (p1 &&& (7 : Int32))), .val (.int (2 : Int32)), .val (.ref b10)] [(.int p3)])) st15 ?_
    refine Goes.st (U' := T15.setTop (mkF m 98 #[.val (.int p1), .val (.int p2), .val (.int p3), .val (.int p4), .val (.int p5), .val (.int p6), .val (.int (p1 &&& (7 : Int32))), .val (.int (2 : Int32)), .val (.ref b10)] [(.int p3), (.int p3)])) (fun t k => XS.iloadN X15.here hx rfl (hb hby at_97) rfl k) ?_
    refine Goes.st (U' := T15.setTop (mkF m 103 #[.val (.int p1), .val (.int p2), .val (.int p3), .val (.int p4), .val (.int p5), .val (.int p6), .val (.int (p1 &&& (7 : Int32))), .val (.int (2 : Int32)), .val (.ref b10)] [])) (fun t k => XS.icmpYes X15.here hx rfl (pc0 := 98) (pc' := 103) rfl (hb hby at_98) rfl (teq (rfl : p3 = p3)).1 (by decide) (by decide) k) ?_
    refine Goes.st (U' := T15.setTop (mkF m 105 #[.val (.int p1), .val (.int p2), .val (.int p3), .val (.int p4), .val (.int p5), .val (.int p6), .val (.int (p1 &&& (7 : Int32))), .val (.int (2 : Int32)), .val (.ref b10)] [(.int (2 : Int32))])) (fun t k => XS.iload X15.here hx rfl (hb hby at_103) rfl k) ?_
    refine Goes.st (U' := T15.setTop (mkF m 106 #[.val (.int p1), .val (.int p2), .val (.int p3), .val (.int p4), .val (.int p5), .val (.int p6), .val (.int (p1 &&& (7 : Int32))), .val (.int (2 : Int32)), .val (.ref b10)] [(.int (1 : Int32)), (.int (2 : Int32))])) (fun t k => XS.iconst X15.here hx rfl (hb hby at_105) k) ?_
    refine Goes.st (U' := T15.setTop (mkF m 109 #[.val (.int p1), .val (.int p2), .val (.int p3), .val (.int p4), .val (.int p5), .val (.int p6), .val (.int (p1 &&& (7 : Int32))), .val (.int (2 : Int32)), .val (.ref b10)] [])) (fun t k => XS.icmpNo X15.here hx rfl (hb hby at_106) rfl (tlt (by decide : (1 : Int32) < (2 : Int32))).2.2.2 k) ?_
    refine Goes.st (U' := T15.setTop (mkF m 111 #[.val (.int p1), .val (.int p2), .val (.int p3), .val (.int p4), .val (.int p5), .val (.int p6), .val (.int (p1 &&& (7 : Int32))), .val (.int (2 : Int32)), .val (.ref b10)] [(.ref b10)])) (fun t k => XS.aload X15.here hx rfl (hb hby at_109) rfl rfl k) ?_
    refine Goes.st (U' := T15.setTop (mkF m 112 #[.val (.int p1), .val (.int p2), .val (.int p3), .val (.int p4), .val (.int p5), .val (.int p6), .val (.int (p1 &&& (7 : Int32))), .val (.int (2 : Int32)), .val (.ref b10)] [(.int (1 : Int32)), (.ref b10)])) (fun t k => XS.iconst X15.here hx rfl (hb hby at_111) k) ?_
    obtain ⟨cq16, kq16, q16a, q16b, q16c⟩ := isOf hZ e15 I13.1
    obtain ⟨_, _, ⟨T16, L16, k16, n16⟩, -, X16, ⟨Lc16, hQ16, l16, y16, z16⟩, st16⟩ := X15.virtualBack hx (y := (⟨"com/example/cosine/cosine/index/IntList", "get", "(I)I"⟩ : MethodName)) (z := (⟨"com/example/cosine/cosine/index/IntList", "get", "(I)I"⟩ : MethodName)) hown (mvT hZ (hw _ (List.mem_of_getElem? (i := 46) rfl))) (mvT hZ (hw _ (List.mem_of_getElem? (i := 47) rfl))) (notFace_of_selects (args := #[]) (mvT hZ (hw _ (List.mem_of_getElem? (i := 49) rfl)))) (mvT hZ (hw _ (List.mem_of_getElem? (i := 49) rfl))) (mvT hZ (hw _ (List.mem_of_getElem? (i := 48) rfl))) (by decide) (backOf (W := 0) (rm9 l Z a0 hw [] b10 (1 : Int32) ar13 ka13 za13 [p3, p4] p4 T13.heap n0 (Nat.le_trans (Nat.le_trans (Nat.le_trans (Nat.le_trans Z0 E10.1) K11.1) K12.1) K13.1) I13 (by decide) (Nat.le_of_ble_eq_true rfl) rfl) hZ (hw _ (List.mem_of_getElem? (i := 50) rfl)) (hw _ (List.mem_of_getElem? (i := 3) rfl)) (by decide) (by decide)) q16a q16c (g := (mkF m 112 #[.val (.int p1), .val (.int p2), .val (.int p3), .val (.int p4), .val (.int p5), .val (.int p6), .val (.int (p1 &&& (7 : Int32))), .val (.int (2 : Int32)), .val (.ref b10)] [(.int (1 : Int32)), (.ref b10)])) rfl (by rw [hml]; rfl) (Steps.refl _) (argsL := [(.int (1 : Int32))]) (rest := []) (lenOf pd_5 rfl) rfl (by show 2 * 0 + _ ≤ _; exact Nat.le_of_eq rfl) (hb hby at_112) (fun _ _ => ⟨rfl, e15, (by decide : 4 + 0 ≤ _), (by decide : 26 + 0 ≤ _)⟩)
    dsimp only [Pt.U, Pt.locs, Pt.cells, Pt.slots] at X16 l16 y16 z16 st16 hQ16
    subst l16 y16 z16
    obtain ⟨rfl, N16q, e16⟩ := hQ16
    have N16 := Fr.app N15 N16q
    replace e16 := e16
    refine Goes.tr (U' := T16.setTop (mkF m 115 #[.val (.int p1), .val (.int p2), .val (.int p3), .val (.int p4), .val (.int p5), .val (.int p6), .val (.int (p1 &&& (7 : Int32))), .val (.int (2 : Int32)), .val (.ref b10)] [(.int p4)])) st16 ?_
    refine Goes.st (U' := T16.setTop (mkF m 116 #[.val (.int p1), .val (.int p2), .val (.int p3), .val (.int p4), .val (.int p5), .val (.int p6), .val (.int (p1 &&& (7 : Int32))), .val (.int (2 : Int32)), .val (.ref b10)] [(.int p4), (.int p4)])) (fun t k => XS.iloadN X16.here hx rfl (hb hby at_115) rfl k) ?_
    refine Goes.st (U' := T16.setTop (mkF m 121 #[.val (.int p1), .val (.int p2), .val (.int p3), .val (.int p4), .val (.int p5), .val (.int p6), .val (.int (p1 &&& (7 : Int32))), .val (.int (2 : Int32)), .val (.ref b10)] [])) (fun t k => XS.icmpYes X16.here hx rfl (pc0 := 116) (pc' := 121) rfl (hb hby at_116) rfl (teq (rfl : p4 = p4)).1 (by decide) (by decide) k) ?_
    refine Goes.st (U' := T16.setTop (mkF m 123 #[.val (.int p1), .val (.int p2), .val (.int p3), .val (.int p4), .val (.int p5), .val (.int p6), .val (.int (p1 &&& (7 : Int32))), .val (.int (2 : Int32)), .val (.ref b10)] [(.int (2 : Int32))])) (fun t k => XS.iload X16.here hx rfl (hb hby at_121) rfl k) ?_
    refine Goes.st (U' := T16.setTop (mkF m 124 #[.val (.int p1), .val (.int p2), .val (.int p3), .val (.int p4), .val (.int p5), .val (.int p6), .val (.int (p1 &&& (7 : Int32))), .val (.int (2 : Int32)), .val (.ref b10)] [(.int (2 : Int32)), (.int (2 : Int32))])) (fun t k => XS.iconst X16.here hx rfl (hb hby at_123) k) ?_
    refine Goes.st (U' := T16.setTop (mkF m 140 #[.val (.int p1), .val (.int p2), .val (.int p3), .val (.int p4), .val (.int p5), .val (.int p6), .val (.int (p1 &&& (7 : Int32))), .val (.int (2 : Int32)), .val (.ref b10)] [])) (fun t k => XS.icmpYes X16.here hx rfl (pc0 := 124) (pc' := 140) rfl (hb hby at_124) rfl (flt (by decide : ¬ ((2 : Int32) < (2 : Int32)))).2.2.2 (by decide) (by decide) k) ?_
    refine Goes.st (U' := T16.setTop (mkF m 142 #[.val (.int p1), .val (.int p2), .val (.int p3), .val (.int p4), .val (.int p5), .val (.int p6), .val (.int (p1 &&& (7 : Int32))), .val (.int (2 : Int32)), .val (.ref b10)] [(.int (2 : Int32))])) (fun t k => XS.iload X16.here hx rfl (hb hby at_140) rfl k) ?_
    refine Goes.st (U' := T16.setTop (mkF m 143 #[.val (.int p1), .val (.int p2), .val (.int p3), .val (.int p4), .val (.int p5), .val (.int p6), .val (.int (p1 &&& (7 : Int32))), .val (.int (2 : Int32)), .val (.ref b10)] [(.int (3 : Int32)), (.int (2 : Int32))])) (fun t k => XS.iconst X16.here hx rfl (hb hby at_142) k) ?_
    refine Goes.st (U' := T16.setTop (mkF m 159 #[.val (.int p1), .val (.int p2), .val (.int p3), .val (.int p4), .val (.int p5), .val (.int p6), .val (.int (p1 &&& (7 : Int32))), .val (.int (2 : Int32)), .val (.ref b10)] [])) (fun t k => XS.icmpYes X16.here hx rfl (pc0 := 143) (pc' := 159) rfl (hb hby at_143) rfl (flt (by decide : ¬ ((3 : Int32) < (2 : Int32)))).2.2.2 (by decide) (by decide) k) ?_
    refine Goes.st (U' := T16.setTop (mkF m 160 #[.val (.int p1), .val (.int p2), .val (.int p3), .val (.int p4), .val (.int p5), .val (.int p6), .val (.int (p1 &&& (7 : Int32))), .val (.int (2 : Int32)), .val (.ref b10)] [(.int (1 : Int32))])) (fun t k => XS.iconst X16.here hx rfl (hb hby at_159) k) ?_
    refine Goes.retZ X16 hx (BodyLoose.notSynchronized Bd) Bd.returns (hb hby at_160) rfl (by decide) (by decide) ?_
    show Q0 Z p1 p2 p3 p4 p5 p6 h0 n0 _ T16.heap _
    rw [e16]
    exact ⟨rfl, N16⟩
  · skip
    refine Goes.st (U' := s₁.setTop (mkF m 14 #[.val (.int p1), .val (.int p2), .val (.int p3), .val (.int p4), .val (.int p5), .val (.int p6), .val (.int (p1 &&& (7 : Int32))), .val (.int (3 : Int32)), .unset] [])) (fun t k => XS.istore X0.here hx rfl (hb hby at_12) rfl (l' := #[.val (.int p1), .val (.int p2), .val (.int p3), .val (.int p4), .val (.int p5), .val (.int p6), .val (.int (p1 &&& (7 : Int32))), .val (.int (3 : Int32)), .unset]) rfl k) ?_
    obtain ⟨T17, h17, X17, e17, E17, A17, D17, -, st17⟩ := newO X0 hx hZ hown (hw _ (List.mem_of_getElem? (i := 1) rfl)) (hw _ (List.mem_of_getElem? (i := 2) rfl)) (hw _ (List.mem_of_getElem? (i := 3) rfl)) e0 (g := (mkF m 14 #[.val (.int p1), .val (.int p2), .val (.int p3), .val (.int p4), .val (.int p5), .val (.int p6), .val (.int (p1 &&& (7 : Int32))), .val (.int (3 : Int32)), .unset] [])) rfl (hb hby at_14) (by decide) (by decide)
    obtain ⟨b17, g17⟩ : ∃ z, z = h0.size := ⟨_, rfl⟩
    rw [← g17] at A17 D17 st17
    have g_b17 : n0 ≤ b17 := Nat.le_trans Z0 (Nat.le_of_eq g17.symm)
    have F_values_b17 : Fld Z h17 b17 "com/example/cosine/cosine/index/IntList" "values" "[I" .null := D17 (Or.inl (hw _ (List.mem_of_getElem? (i := 12) rfl))) (ty := (.array .int)) (by decide)
    have F_size_b17 : Fld Z h17 b17 "com/example/cosine/cosine/index/IntList" "size" "I" (.int (0 : Int32)) := D17 (Or.inl (hw _ (List.mem_of_getElem? (i := 19) rfl))) (ty := .int) (by decide)
    refine Goes.st (U' := T17.setTop (mkF m 17 #[.val (.int p1), .val (.int p2), .val (.int p3), .val (.int p4), .val (.int p5), .val (.int p6), .val (.int (p1 &&& (7 : Int32))), .val (.int (3 : Int32)), .unset] [(.ref b17)])) (fun t k => st17 t k) ?_
    refine Goes.st (U' := T17.setTop (mkF m 18 #[.val (.int p1), .val (.int p2), .val (.int p3), .val (.int p4), .val (.int p5), .val (.int p6), .val (.int (p1 &&& (7 : Int32))), .val (.int (3 : Int32)), .unset] [(.ref b17), (.ref b17)])) (fun t k => XS.dup X17.here hx rfl (hb hby at_17) rfl rfl k) ?_
    refine Goes.st (U' := T17.setTop (mkF m 20 #[.val (.int p1), .val (.int p2), .val (.int p3), .val (.int p4), .val (.int p5), .val (.int p6), .val (.int (p1 &&& (7 : Int32))), .val (.int (3 : Int32)), .unset] [(.int (p1 &&& (7 : Int32))), (.ref b17), (.ref b17)])) (fun t k => XS.iload X17.here hx rfl (hb hby at_18) rfl k) ?_
    obtain ⟨_, _, ⟨T18, L18, k18, n18⟩, -, X18, ⟨Lc18, hQ18, l18, y18, z18⟩, st18⟩ := X17.specialBack hx (y := (⟨"com/example/cosine/cosine/index/IntList", "<init>", "(I)V"⟩ : MethodName)) rfl hown (mvT hZ (hw _ (List.mem_of_getElem? (i := 4) rfl))) (mvT hZ (hw _ (List.mem_of_getElem? (i := 5) rfl))) (mvT hZ (hw _ (List.mem_of_getElem? (i := 6) rfl))) (by decide) (backOf (W := 1) (rm1 l Z a0 hw [] b17 (p1 &&& (7 : Int32)) h17 n0 (Nat.le_trans Z0 E17.1) A17 F_values_b17 F_size_b17 g_b17 (own_cap p1).1 (own_cap p1).2) hZ (hw _ (List.mem_of_getElem? (i := 6) rfl)) (hw _ (List.mem_of_getElem? (i := 3) rfl)) (by decide) (by decide)) (g := (mkF m 20 #[.val (.int p1), .val (.int p2), .val (.int p3), .val (.int p4), .val (.int p5), .val (.int p6), .val (.int (p1 &&& (7 : Int32))), .val (.int (3 : Int32)), .unset] [(.int (p1 &&& (7 : Int32))), (.ref b17), (.ref b17)])) rfl (by rw [hml]; rfl) (Steps.refl _) (a := b17) (argsL := [(.int (p1 &&& (7 : Int32)))]) (rest := [(.ref b17)]) (lenOf pd_3 rfl) rfl (by show 2 * 0 + _ ≤ _; exact Nat.le_of_eq rfl) (hb hby at_20) (fun _ _ => ⟨rfl, e17, (by decide : 1 + 1 ≤ _), (by decide : 2 + 8 ≤ _)⟩)
    dsimp only [Pt.U, Pt.locs, Pt.cells, Pt.slots] at X18 l18 y18 z18 st18 hQ18
    subst l18 y18 z18
    obtain ⟨rfl, N18q, K18, ar18, ka18, I18, g_ar18, u18⟩ := hQ18
    have N18 := Fr.app N0 N18q
    have ne_b17_ar18 : b17 ≠ ar18 := Nat.ne_of_lt (Nat.lt_of_lt_of_le A17.lt u18)
    refine Goes.tr (U' := T18.setTop (mkF m 23 #[.val (.int p1), .val (.int p2), .val (.int p3), .val (.int p4), .val (.int p5), .val (.int p6), .val (.int (p1 &&& (7 : Int32))), .val (.int (3 : Int32)), .unset] [(.ref b17)])) st18 ?_
    refine Goes.st (U' := T18.setTop (mkF m 25 #[.val (.int p1), .val (.int p2), .val (.int p3), .val (.int p4), .val (.int p5), .val (.int p6), .val (.int (p1 &&& (7 : Int32))), .val (.int (3 : Int32)), .val (.ref b17)] [])) (fun t k => XS.astore X18.here hx rfl (hb hby at_23) rfl rfl (l' := #[.val (.int p1), .val (.int p2), .val (.int p3), .val (.int p4), .val (.int p5), .val (.int p6), .val (.int (p1 &&& (7 : Int32))), .val (.int (3 : Int32)), .val (.ref b17)]) rfl k) ?_
    refine Goes.st (U' := T18.setTop (mkF m 27 #[.val (.int p1), .val (.int p2), .val (.int p3), .val (.int p4), .val (.int p5), .val (.int p6), .val (.int (p1 &&& (7 : Int32))), .val (.int (3 : Int32)), .val (.ref b17)] [(.int (3 : Int32))])) (fun t k => XS.iload X18.here hx rfl (hb hby at_25) rfl k) ?_
    refine Goes.st (U' := T18.setTop (mkF m 30 #[.val (.int p1), .val (.int p2), .val (.int p3), .val (.int p4), .val (.int p5), .val (.int p6), .val (.int (p1 &&& (7 : Int32))), .val (.int (3 : Int32)), .val (.ref b17)] [])) (fun t k => XS.ifNo X18.here hx rfl (hb hby at_27) rfl ((if0 _ _).trans (tlt (by decide : (0 : Int32) < (3 : Int32))).2.2.2) k) ?_
    refine Goes.st (U' := T18.setTop (mkF m 32 #[.val (.int p1), .val (.int p2), .val (.int p3), .val (.int p4), .val (.int p5), .val (.int p6), .val (.int (p1 &&& (7 : Int32))), .val (.int (3 : Int32)), .val (.ref b17)] [(.ref b17)])) (fun t k => XS.aload X18.here hx rfl (hb hby at_30) rfl rfl k) ?_
    refine Goes.st (U' := T18.setTop (mkF m 33 #[.val (.int p1), .val (.int p2), .val (.int p3), .val (.int p4), .val (.int p5), .val (.int p6), .val (.int (p1 &&& (7 : Int32))), .val (.int (3 : Int32)), .val (.ref b17)] [(.int p3), (.ref b17)])) (fun t k => XS.iloadN X18.here hx rfl (hb hby at_32) rfl k) ?_
    obtain ⟨cq19, kq19, q19a, q19b, q19c⟩ := isOf hZ rfl I18.1
    obtain ⟨_, _, ⟨T19, L19, k19, n19⟩, -, X19, ⟨Lc19, hQ19, l19, y19, z19⟩, st19⟩ := X18.virtualBack hx (y := (⟨"com/example/cosine/cosine/index/IntList", "add", "(I)V"⟩ : MethodName)) (z := (⟨"com/example/cosine/cosine/index/IntList", "add", "(I)V"⟩ : MethodName)) hown (mvT hZ (hw _ (List.mem_of_getElem? (i := 13) rfl))) (mvT hZ (hw _ (List.mem_of_getElem? (i := 14) rfl))) (notFace_of_selects (args := #[]) (mvT hZ (hw _ (List.mem_of_getElem? (i := 16) rfl)))) (mvT hZ (hw _ (List.mem_of_getElem? (i := 16) rfl))) (mvT hZ (hw _ (List.mem_of_getElem? (i := 15) rfl))) (by decide) (backOf (W := 0) (rm3 l Z a0 hw [] b17 p3 ar18 ka18 (p1 &&& (7 : Int32)) [] T18.heap n0 (Nat.le_trans (Nat.le_trans Z0 E17.1) K18.1) I18 (Nat.le_of_ble_eq_true rfl) g_b17 g_ar18) hZ (hw _ (List.mem_of_getElem? (i := 17) rfl)) (hw _ (List.mem_of_getElem? (i := 3) rfl)) (by decide) (by decide)) q19a q19c (g := (mkF m 33 #[.val (.int p1), .val (.int p2), .val (.int p3), .val (.int p4), .val (.int p5), .val (.int p6), .val (.int (p1 &&& (7 : Int32))), .val (.int (3 : Int32)), .val (.ref b17)] [(.int p3), (.ref b17)])) rfl (by rw [hml]; rfl) (Steps.refl _) (argsL := [(.int p3)]) (rest := []) (lenOf pd_3 rfl) rfl (by show 2 * 0 + _ ≤ _; exact Nat.le_of_eq rfl) (hb hby at_33) (fun _ _ => ⟨rfl, rfl, (by decide : 2 + 1 ≤ _), (by decide : 10 + 8 ≤ _)⟩)
    dsimp only [Pt.U, Pt.locs, Pt.cells, Pt.slots] at X19 l19 y19 z19 st19 hQ19
    subst l19 y19 z19
    obtain ⟨rfl, N19q, K19, ar19, ka19, za19, I19, g_ar19, u19⟩ := hQ19
    have N19 := Fr.app N18 N19q
    have ne_b17_ar19 : b17 ≠ ar19 := I19.2.2.2.2.2.2.2.2
    refine Goes.tr (U' := T19.setTop (mkF m 36 #[.val (.int p1), .val (.int p2), .val (.int p3), .val (.int p4), .val (.int p5), .val (.int p6), .val (.int (p1 &&& (7 : Int32))), .val (.int (3 : Int32)), .val (.ref b17)] [])) st19 ?_
    refine Goes.st (U' := T19.setTop (mkF m 38 #[.val (.int p1), .val (.int p2), .val (.int p3), .val (.int p4), .val (.int p5), .val (.int p6), .val (.int (p1 &&& (7 : Int32))), .val (.int (3 : Int32)), .val (.ref b17)] [(.int (3 : Int32))])) (fun t k => XS.iload X19.here hx rfl (hb hby at_36) rfl k) ?_
    refine Goes.st (U' := T19.setTop (mkF m 39 #[.val (.int p1), .val (.int p2), .val (.int p3), .val (.int p4), .val (.int p5), .val (.int p6), .val (.int (p1 &&& (7 : Int32))), .val (.int (3 : Int32)), .val (.ref b17)] [(.int (1 : Int32)), (.int (3 : Int32))])) (fun t k => XS.iconst X19.here hx rfl (hb hby at_38) k) ?_
    refine Goes.st (U' := T19.setTop (mkF m 42 #[.val (.int p1), .val (.int p2), .val (.int p3), .val (.int p4), .val (.int p5), .val (.int p6), .val (.int (p1 &&& (7 : Int32))), .val (.int (3 : Int32)), .val (.ref b17)] [])) (fun t k => XS.icmpNo X19.here hx rfl (hb hby at_39) rfl (tlt (by decide : (1 : Int32) < (3 : Int32))).2.2.2 k) ?_
    refine Goes.st (U' := T19.setTop (mkF m 44 #[.val (.int p1), .val (.int p2), .val (.int p3), .val (.int p4), .val (.int p5), .val (.int p6), .val (.int (p1 &&& (7 : Int32))), .val (.int (3 : Int32)), .val (.ref b17)] [(.ref b17)])) (fun t k => XS.aload X19.here hx rfl (hb hby at_42) rfl rfl k) ?_
    refine Goes.st (U' := T19.setTop (mkF m 45 #[.val (.int p1), .val (.int p2), .val (.int p3), .val (.int p4), .val (.int p5), .val (.int p6), .val (.int (p1 &&& (7 : Int32))), .val (.int (3 : Int32)), .val (.ref b17)] [(.int p4), (.ref b17)])) (fun t k => XS.iloadN X19.here hx rfl (hb hby at_44) rfl k) ?_
    obtain ⟨cq20, kq20, q20a, q20b, q20c⟩ := isOf hZ rfl I19.1
    obtain ⟨_, _, ⟨T20, L20, k20, n20⟩, -, X20, ⟨Lc20, hQ20, l20, y20, z20⟩, st20⟩ := X19.virtualBack hx (y := (⟨"com/example/cosine/cosine/index/IntList", "add", "(I)V"⟩ : MethodName)) (z := (⟨"com/example/cosine/cosine/index/IntList", "add", "(I)V"⟩ : MethodName)) hown (mvT hZ (hw _ (List.mem_of_getElem? (i := 13) rfl))) (mvT hZ (hw _ (List.mem_of_getElem? (i := 14) rfl))) (notFace_of_selects (args := #[]) (mvT hZ (hw _ (List.mem_of_getElem? (i := 16) rfl)))) (mvT hZ (hw _ (List.mem_of_getElem? (i := 16) rfl))) (mvT hZ (hw _ (List.mem_of_getElem? (i := 15) rfl))) (by decide) (backOf (W := 0) (rm3 l Z a0 hw [] b17 p4 ar19 ka19 za19 [p3] T19.heap n0 (Nat.le_trans (Nat.le_trans (Nat.le_trans Z0 E17.1) K18.1) K19.1) I19 (Nat.le_of_ble_eq_true rfl) g_b17 g_ar19) hZ (hw _ (List.mem_of_getElem? (i := 17) rfl)) (hw _ (List.mem_of_getElem? (i := 3) rfl)) (by decide) (by decide)) q20a q20c (g := (mkF m 45 #[.val (.int p1), .val (.int p2), .val (.int p3), .val (.int p4), .val (.int p5), .val (.int p6), .val (.int (p1 &&& (7 : Int32))), .val (.int (3 : Int32)), .val (.ref b17)] [(.int p4), (.ref b17)])) rfl (by rw [hml]; rfl) (Steps.refl _) (argsL := [(.int p4)]) (rest := []) (lenOf pd_3 rfl) rfl (by show 2 * 0 + _ ≤ _; exact Nat.le_of_eq rfl) (hb hby at_45) (fun _ _ => ⟨rfl, rfl, (by decide : 3 + 1 ≤ _), (by decide : 18 + 8 ≤ _)⟩)
    dsimp only [Pt.U, Pt.locs, Pt.cells, Pt.slots] at X20 l20 y20 z20 st20 hQ20
    subst l20 y20 z20
    obtain ⟨rfl, N20q, K20, ar20, ka20, za20, I20, g_ar20, u20⟩ := hQ20
    have N20 := Fr.app N19 N20q
    have ne_b17_ar20 : b17 ≠ ar20 := I20.2.2.2.2.2.2.2.2
    refine Goes.tr (U' := T20.setTop (mkF m 48 #[.val (.int p1), .val (.int p2), .val (.int p3), .val (.int p4), .val (.int p5), .val (.int p6), .val (.int (p1 &&& (7 : Int32))), .val (.int (3 : Int32)), .val (.ref b17)] [])) st20 ?_
    refine Goes.st (U' := T20.setTop (mkF m 50 #[.val (.int p1), .val (.int p2), .val (.int p3), .val (.int p4), .val (.int p5), .val (.int p6), .val (.int (p1 &&& (7 : Int32))), .val (.int (3 : Int32)), .val (.ref b17)] [(.int (3 : Int32))])) (fun t k => XS.iload X20.here hx rfl (hb hby at_48) rfl k) ?_
    refine Goes.st (U' := T20.setTop (mkF m 51 #[.val (.int p1), .val (.int p2), .val (.int p3), .val (.int p4), .val (.int p5), .val (.int p6), .val (.int (p1 &&& (7 : Int32))), .val (.int (3 : Int32)), .val (.ref b17)] [(.int (2 : Int32)), (.int (3 : Int32))])) (fun t k => XS.iconst X20.here hx rfl (hb hby at_50) k) ?_
    refine Goes.st (U' := T20.setTop (mkF m 54 #[.val (.int p1), .val (.int p2), .val (.int p3), .val (.int p4), .val (.int p5), .val (.int p6), .val (.int (p1 &&& (7 : Int32))), .val (.int (3 : Int32)), .val (.ref b17)] [])) (fun t k => XS.icmpNo X20.here hx rfl (hb hby at_51) rfl (tlt (by decide : (2 : Int32) < (3 : Int32))).2.2.2 k) ?_
    refine Goes.st (U' := T20.setTop (mkF m 56 #[.val (.int p1), .val (.int p2), .val (.int p3), .val (.int p4), .val (.int p5), .val (.int p6), .val (.int (p1 &&& (7 : Int32))), .val (.int (3 : Int32)), .val (.ref b17)] [(.ref b17)])) (fun t k => XS.aload X20.here hx rfl (hb hby at_54) rfl rfl k) ?_
    refine Goes.st (U' := T20.setTop (mkF m 58 #[.val (.int p1), .val (.int p2), .val (.int p3), .val (.int p4), .val (.int p5), .val (.int p6), .val (.int (p1 &&& (7 : Int32))), .val (.int (3 : Int32)), .val (.ref b17)] [(.int p5), (.ref b17)])) (fun t k => XS.iload X20.here hx rfl (hb hby at_56) rfl k) ?_
    obtain ⟨cq21, kq21, q21a, q21b, q21c⟩ := isOf hZ rfl I20.1
    obtain ⟨_, _, ⟨T21, L21, k21, n21⟩, -, X21, ⟨Lc21, hQ21, l21, y21, z21⟩, st21⟩ := X20.virtualBack hx (y := (⟨"com/example/cosine/cosine/index/IntList", "add", "(I)V"⟩ : MethodName)) (z := (⟨"com/example/cosine/cosine/index/IntList", "add", "(I)V"⟩ : MethodName)) hown (mvT hZ (hw _ (List.mem_of_getElem? (i := 13) rfl))) (mvT hZ (hw _ (List.mem_of_getElem? (i := 14) rfl))) (notFace_of_selects (args := #[]) (mvT hZ (hw _ (List.mem_of_getElem? (i := 16) rfl)))) (mvT hZ (hw _ (List.mem_of_getElem? (i := 16) rfl))) (mvT hZ (hw _ (List.mem_of_getElem? (i := 15) rfl))) (by decide) (backOf (W := 0) (rm3 l Z a0 hw [] b17 p5 ar20 ka20 za20 [p3, p4] T20.heap n0 (Nat.le_trans (Nat.le_trans (Nat.le_trans (Nat.le_trans Z0 E17.1) K18.1) K19.1) K20.1) I20 (Nat.le_of_ble_eq_true rfl) g_b17 g_ar20) hZ (hw _ (List.mem_of_getElem? (i := 17) rfl)) (hw _ (List.mem_of_getElem? (i := 3) rfl)) (by decide) (by decide)) q21a q21c (g := (mkF m 58 #[.val (.int p1), .val (.int p2), .val (.int p3), .val (.int p4), .val (.int p5), .val (.int p6), .val (.int (p1 &&& (7 : Int32))), .val (.int (3 : Int32)), .val (.ref b17)] [(.int p5), (.ref b17)])) rfl (by rw [hml]; rfl) (Steps.refl _) (argsL := [(.int p5)]) (rest := []) (lenOf pd_3 rfl) rfl (by show 2 * 0 + _ ≤ _; exact Nat.le_of_eq rfl) (hb hby at_58) (fun _ _ => ⟨rfl, rfl, (by decide : 4 + 1 ≤ _), (by decide : 26 + 8 ≤ _)⟩)
    dsimp only [Pt.U, Pt.locs, Pt.cells, Pt.slots] at X21 l21 y21 z21 st21 hQ21
    subst l21 y21 z21
    obtain ⟨rfl, N21q, K21, ar21, ka21, za21, I21, g_ar21, u21⟩ := hQ21
    have N21 := Fr.app N20 N21q
    have ne_b17_ar21 : b17 ≠ ar21 := I21.2.2.2.2.2.2.2.2
    refine Goes.tr (U' := T21.setTop (mkF m 61 #[.val (.int p1), .val (.int p2), .val (.int p3), .val (.int p4), .val (.int p5), .val (.int p6), .val (.int (p1 &&& (7 : Int32))), .val (.int (3 : Int32)), .val (.ref b17)] [])) st21 ?_
    refine Goes.st (U' := T21.setTop (mkF m 63 #[.val (.int p1), .val (.int p2), .val (.int p3), .val (.int p4), .val (.int p5), .val (.int p6), .val (.int (p1 &&& (7 : Int32))), .val (.int (3 : Int32)), .val (.ref b17)] [(.int (3 : Int32))])) (fun t k => XS.iload X21.here hx rfl (hb hby at_61) rfl k) ?_
    refine Goes.st (U' := T21.setTop (mkF m 64 #[.val (.int p1), .val (.int p2), .val (.int p3), .val (.int p4), .val (.int p5), .val (.int p6), .val (.int (p1 &&& (7 : Int32))), .val (.int (3 : Int32)), .val (.ref b17)] [(.int (3 : Int32)), (.int (3 : Int32))])) (fun t k => XS.iconst X21.here hx rfl (hb hby at_63) k) ?_
    refine Goes.st (U' := T21.setTop (mkF m 74 #[.val (.int p1), .val (.int p2), .val (.int p3), .val (.int p4), .val (.int p5), .val (.int p6), .val (.int (p1 &&& (7 : Int32))), .val (.int (3 : Int32)), .val (.ref b17)] [])) (fun t k => XS.icmpYes X21.here hx rfl (pc0 := 64) (pc' := 74) rfl (hb hby at_64) rfl (flt (by decide : ¬ ((3 : Int32) < (3 : Int32)))).2.2.2 (by decide) (by decide) k) ?_
    refine Goes.st (U' := T21.setTop (mkF m 76 #[.val (.int p1), .val (.int p2), .val (.int p3), .val (.int p4), .val (.int p5), .val (.int p6), .val (.int (p1 &&& (7 : Int32))), .val (.int (3 : Int32)), .val (.ref b17)] [(.ref b17)])) (fun t k => XS.aload X21.here hx rfl (hb hby at_74) rfl rfl k) ?_
    obtain ⟨cq22, kq22, q22a, q22b, q22c⟩ := isOf hZ rfl I21.1
    obtain ⟨_, _, ⟨T22, L22, k22, n22⟩, -, X22, ⟨Lc22, hQ22, l22, y22, z22⟩, st22⟩ := X21.virtualBack hx (y := (⟨"com/example/cosine/cosine/index/IntList", "size", "()I"⟩ : MethodName)) (z := (⟨"com/example/cosine/cosine/index/IntList", "size", "()I"⟩ : MethodName)) hown (mvT hZ (hw _ (List.mem_of_getElem? (i := 41) rfl))) (mvT hZ (hw _ (List.mem_of_getElem? (i := 42) rfl))) (notFace_of_selects (args := #[]) (mvT hZ (hw _ (List.mem_of_getElem? (i := 44) rfl)))) (mvT hZ (hw _ (List.mem_of_getElem? (i := 44) rfl))) (mvT hZ (hw _ (List.mem_of_getElem? (i := 43) rfl))) (by decide) (backOf (W := 0) (rm8 l Z a0 hw [] b17 ar21 ka21 za21 [p3, p4, p5] T21.heap n0 (Nat.le_trans (Nat.le_trans (Nat.le_trans (Nat.le_trans (Nat.le_trans Z0 E17.1) K18.1) K19.1) K20.1) K21.1) I21) hZ (hw _ (List.mem_of_getElem? (i := 45) rfl)) (hw _ (List.mem_of_getElem? (i := 3) rfl)) (by decide) (by decide)) q22a q22c (g := (mkF m 76 #[.val (.int p1), .val (.int p2), .val (.int p3), .val (.int p4), .val (.int p5), .val (.int p6), .val (.int (p1 &&& (7 : Int32))), .val (.int (3 : Int32)), .val (.ref b17)] [(.ref b17)])) rfl (by rw [hml]; rfl) (Steps.refl _) (argsL := []) (rest := []) (lenOf pd_4 rfl) rfl (by show 2 * 0 + _ ≤ _; exact Nat.le_of_eq rfl) (hb hby at_76) (fun _ _ => ⟨rfl, rfl, (by decide : 5 + 0 ≤ _), (by decide : 34 + 0 ≤ _)⟩)
    dsimp only [Pt.U, Pt.locs, Pt.cells, Pt.slots] at X22 l22 y22 z22 st22 hQ22
    subst l22 y22 z22
    obtain ⟨rfl, N22q, e22⟩ := hQ22
    have N22 := Fr.app N21 N22q
    replace e22 := e22
    refine Goes.tr (U' := T22.setTop (mkF m 79 #[.val (.int p1), .val (.int p2), .val (.int p3), .val (.int p4), .val (.int p5), .val (.int p6), .val (.int (p1 &&& (7 : Int32))), .val (.int (3 : Int32)), .val (.ref b17)] [(.int (3 : Int32))])) st22 ?_
    refine Goes.st (U' := T22.setTop (mkF m 81 #[.val (.int p1), .val (.int p2), .val (.int p3), .val (.int p4), .val (.int p5), .val (.int p6), .val (.int (p1 &&& (7 : Int32))), .val (.int (3 : Int32)), .val (.ref b17)] [(.int (3 : Int32)), (.int (3 : Int32))])) (fun t k => XS.iload X22.here hx rfl (hb hby at_79) rfl k) ?_
    refine Goes.st (U' := T22.setTop (mkF m 86 #[.val (.int p1), .val (.int p2), .val (.int p3), .val (.int p4), .val (.int p5), .val (.int p6), .val (.int (p1 &&& (7 : Int32))), .val (.int (3 : Int32)), .val (.ref b17)] [])) (fun t k => XS.icmpYes X22.here hx rfl (pc0 := 81) (pc' := 86) rfl (hb hby at_81) rfl (teq (rfl : (3 : Int32) = (3 : Int32))).1 (by decide) (by decide) k) ?_
    refine Goes.st (U' := T22.setTop (mkF m 88 #[.val (.int p1), .val (.int p2), .val (.int p3), .val (.int p4), .val (.int p5), .val (.int p6), .val (.int (p1 &&& (7 : Int32))), .val (.int (3 : Int32)), .val (.ref b17)] [(.int (3 : Int32))])) (fun t k => XS.iload X22.here hx rfl (hb hby at_86) rfl k) ?_
    refine Goes.st (U' := T22.setTop (mkF m 91 #[.val (.int p1), .val (.int p2), .val (.int p3), .val (.int p4), .val (.int p5), .val (.int p6), .val (.int (p1 &&& (7 : Int32))), .val (.int (3 : Int32)), .val (.ref b17)] [])) (fun t k => XS.ifNo X22.here hx rfl (hb hby at_88) rfl ((if0 _ _).trans (tlt (by decide : (0 : Int32) < (3 : Int32))).2.2.2) k) ?_
    refine Goes.st (U' := T22.setTop (mkF m 93 #[.val (.int p1), .val (.int p2), .val (.int p3), .val (.int p4), .val (.int p5), .val (.int p6), .val (.int (p1 &&& (7 : Int32))), .val (.int (3 : Int32)), .val (.ref b17)] [(.ref b17)])) (fun t k => XS.aload X22.here hx rfl (hb hby at_91) rfl rfl k) ?_
    refine Goes.st (U' := T22.setTop (mkF m 94 #[.val (.int p1), .val (.int p2), .val (.int p3), .val (.int p4), .val (.int p5), .val (.int p6), .val (.int (p1 &&& (7 : Int32))), .val (.int (3 : Int32)), .val (.ref b17)] [(.int (0 : Int32)), (.ref b17)])) (fun t k => XS.iconst X22.here hx rfl (hb hby at_93) k) ?_
    obtain ⟨cq23, kq23, q23a, q23b, q23c⟩ := isOf hZ e22 I21.1
    obtain ⟨_, _, ⟨T23, L23, k23, n23⟩, -, X23, ⟨Lc23, hQ23, l23, y23, z23⟩, st23⟩ := X22.virtualBack hx (y := (⟨"com/example/cosine/cosine/index/IntList", "get", "(I)I"⟩ : MethodName)) (z := (⟨"com/example/cosine/cosine/index/IntList", "get", "(I)I"⟩ : MethodName)) hown (mvT hZ (hw _ (List.mem_of_getElem? (i := 46) rfl))) (mvT hZ (hw _ (List.mem_of_getElem? (i := 47) rfl))) (notFace_of_selects (args := #[]) (mvT hZ (hw _ (List.mem_of_getElem? (i := 49) rfl)))) (mvT hZ (hw _ (List.mem_of_getElem? (i := 49) rfl))) (mvT hZ (hw _ (List.mem_of_getElem? (i := 48) rfl))) (by decide) (backOf (W := 0) (rm9 l Z a0 hw [] b17 (0 : Int32) ar21 ka21 za21 [p3, p4, p5] p3 T21.heap n0 (Nat.le_trans (Nat.le_trans (Nat.le_trans (Nat.le_trans (Nat.le_trans Z0 E17.1) K18.1) K19.1) K20.1) K21.1) I21 (by decide) (Nat.le_of_ble_eq_true rfl) rfl) hZ (hw _ (List.mem_of_getElem? (i := 50) rfl)) (hw _ (List.mem_of_getElem? (i := 3) rfl)) (by decide) (by decide)) q23a q23c (g := (mkF m 94 #[.val (.int p1), .val (.int p2), .val (.int p3), .val (.int p4), .val (.int p5), .val (.int p6), .val (.int (p1 &&& (7 : Int32))), .val (.int (3 : Int32)), .val (.ref b17)] [(.int (0 : Int32)), (.ref b17)])) rfl (by rw [hml]; rfl) (Steps.refl _) (argsL := [(.int (0 : Int32))]) (rest := []) (lenOf pd_5 rfl) rfl (by show 2 * 0 + _ ≤ _; exact Nat.le_of_eq rfl) (hb hby at_94) (fun _ _ => ⟨rfl, e22, (by decide : 5 + 0 ≤ _), (by decide : 34 + 0 ≤ _)⟩)
    dsimp only [Pt.U, Pt.locs, Pt.cells, Pt.slots] at X23 l23 y23 z23 st23 hQ23
    subst l23 y23 z23
    obtain ⟨rfl, N23q, e23⟩ := hQ23
    have N23 := Fr.app N22 N23q
    replace e23 := e23
    refine Goes.tr (U' := T23.setTop (mkF m 97 #[.val (.int p1), .val (.int p2), .val (.int p3), .val (.int p4), .val (.int p5), .val (.int p6), .val (.int (p1 &&& (7 : Int32))), .val (.int (3 : Int32)), .val (.ref b17)] [(.int p3)])) st23 ?_
    refine Goes.st (U' := T23.setTop (mkF m 98 #[.val (.int p1), .val (.int p2), .val (.int p3), .val (.int p4), .val (.int p5), .val (.int p6), .val (.int (p1 &&& (7 : Int32))), .val (.int (3 : Int32)), .val (.ref b17)] [(.int p3), (.int p3)])) (fun t k => XS.iloadN X23.here hx rfl (hb hby at_97) rfl k) ?_
    refine Goes.st (U' := T23.setTop (mkF m 103 #[.val (.int p1), .val (.int p2), .val (.int p3), .val (.int p4), .val (.int p5), .val (.int p6), .val (.int (p1 &&& (7 : Int32))), .val (.int (3 : Int32)), .val (.ref b17)] [])) (fun t k => XS.icmpYes X23.here hx rfl (pc0 := 98) (pc' := 103) rfl (hb hby at_98) rfl (teq (rfl : p3 = p3)).1 (by decide) (by decide) k) ?_
    refine Goes.st (U' := T23.setTop (mkF m 105 #[.val (.int p1), .val (.int p2), .val (.int p3), .val (.int p4), .val (.int p5), .val (.int p6), .val (.int (p1 &&& (7 : Int32))), .val (.int (3 : Int32)), .val (.ref b17)] [(.int (3 : Int32))])) (fun t k => XS.iload X23.here hx rfl (hb hby at_103) rfl k) ?_
    refine Goes.st (U' := T23.setTop (mkF m 106 #[.val (.int p1), .val (.int p2), .val (.int p3), .val (.int p4), .val (.int p5), .val (.int p6), .val (.int (p1 &&& (7 : Int32))), .val (.int (3 : Int32)), .val (.ref b17)] [(.int (1 : Int32)), (.int (3 : Int32))])) (fun t k => XS.iconst X23.here hx rfl (hb hby at_105) k) ?_
    refine Goes.st (U' := T23.setTop (mkF m 109 #[.val (.int p1), .val (.int p2), .val (.int p3), .val (.int p4), .val (.int p5), .val (.int p6), .val (.int (p1 &&& (7 : Int32))), .val (.int (3 : Int32)), .val (.ref b17)] [])) (fun t k => XS.icmpNo X23.here hx rfl (hb hby at_106) rfl (tlt (by decide : (1 : Int32) < (3 : Int32))).2.2.2 k) ?_
    refine Goes.st (U' := T23.setTop (mkF m 111 #[.val (.int p1), .val (.int p2), .val (.int p3), .val (.int p4), .val (.int p5), .val (.int p6), .val (.int (p1 &&& (7 : Int32))), .val (.int (3 : Int32)), .val (.ref b17)] [(.ref b17)])) (fun t k => XS.aload X23.here hx rfl (hb hby at_109) rfl rfl k) ?_
    refine Goes.st (U' := T23.setTop (mkF m 112 #[.val (.int p1), .val (.int p2), .val (.int p3), .val (.int p4), .val (.int p5), .val (.int p6), .val (.int (p1 &&& (7 : Int32))), .val (.int (3 : Int32)), .val (.ref b17)] [(.int (1 : Int32)), (.ref b17)])) (fun t k => XS.iconst X23.here hx rfl (hb hby at_111) k) ?_
    obtain ⟨cq24, kq24, q24a, q24b, q24c⟩ := isOf hZ e23 I21.1
    obtain ⟨_, _, ⟨T24, L24, k24, n24⟩, -, X24, ⟨Lc24, hQ24, l24, y24, z24⟩, st24⟩ := X23.virtualBack hx (y := (⟨"com/example/cosine/cosine/index/IntList", "get", "(I)I"⟩ : MethodName)) (z := (⟨"com/example/cosine/cosine/index/IntList", "get", "(I)I"⟩ : MethodName)) hown (mvT hZ (hw _ (List.mem_of_getElem? (i := 46) rfl))) (mvT hZ (hw _ (List.mem_of_getElem? (i := 47) rfl))) (notFace_of_selects (args := #[]) (mvT hZ (hw _ (List.mem_of_getElem? (i := 49) rfl)))) (mvT hZ (hw _ (List.mem_of_getElem? (i := 49) rfl))) (mvT hZ (hw _ (List.mem_of_getElem? (i := 48) rfl))) (by decide) (backOf (W := 0) (rm9 l Z a0 hw [] b17 (1 : Int32) ar21 ka21 za21 [p3, p4, p5] p4 T21.heap n0 (Nat.le_trans (Nat.le_trans (Nat.le_trans (Nat.le_trans (Nat.le_trans Z0 E17.1) K18.1) K19.1) K20.1) K21.1) I21 (by decide) (Nat.le_of_ble_eq_true rfl) rfl) hZ (hw _ (List.mem_of_getElem? (i := 50) rfl)) (hw _ (List.mem_of_getElem? (i := 3) rfl)) (by decide) (by decide)) q24a q24c (g := (mkF m 112 #[.val (.int p1), .val (.int p2), .val (.int p3), .val (.int p4), .val (.int p5), .val (.int p6), .val (.int (p1 &&& (7 : Int32))), .val (.int (3 : Int32)), .val (.ref b17)] [(.int (1 : Int32)), (.ref b17)])) rfl (by rw [hml]; rfl) (Steps.refl _) (argsL := [(.int (1 : Int32))]) (rest := []) (lenOf pd_5 rfl) rfl (by show 2 * 0 + _ ≤ _; exact Nat.le_of_eq rfl) (hb hby at_112) (fun _ _ => ⟨rfl, e23, (by decide : 5 + 0 ≤ _), (by decide : 34 + 0 ≤ _)⟩)
    dsimp only [Pt.U, Pt.locs, Pt.cells, Pt.slots] at X24 l24 y24 z24 st24 hQ24
    subst l24 y24 z24
    obtain ⟨rfl, N24q, e24⟩ := hQ24
    have N24 := Fr.app N23 N24q
    replace e24 := e24
    refine Goes.tr (U' := T24.setTop (mkF m 115 #[.val (.int p1), .val (.int p2), .val (.int p3), .val (.int p4), .val (.int p5), .val (.int p6), .val (.int (p1 &&& (7 : Int32))), .val (.int (3 : Int32)), .val (.ref b17)] [(.int p4)])) st24 ?_
    refine Goes.st (U' := T24.setTop (mkF m 116 #[.val (.int p1), .val (.int p2), .val (.int p3), .val (.int p4), .val (.int p5), .val (.int p6), .val (.int (p1 &&& (7 : Int32))), .val (.int (3 : Int32)), .val (.ref b17)] [(.int p4), (.int p4)])) (fun t k => XS.iloadN X24.here hx rfl (hb hby at_115) rfl k) ?_
    refine Goes.st (U' := T24.setTop (mkF m 121 #[.val (.int p1), .val (.int p2), .val (.int p3), .val (.int p4), .val (.int p5), .val (.int p6), .val (.int (p1 &&& (7 : Int32))), .val (.int (3 : Int32)), .val (.ref b17)] [])) (fun t k => XS.icmpYes X24.here hx rfl (pc0 := 116) (pc' := 121) rfl (hb hby at_116) rfl (teq (rfl : p4 = p4)).1 (by decide) (by decide) k) ?_
    refine Goes.st (U' := T24.setTop (mkF m 123 #[.val (.int p1), .val (.int p2), .val (.int p3), .val (.int p4), .val (.int p5), .val (.int p6), .val (.int (p1 &&& (7 : Int32))), .val (.int (3 : Int32)), .val (.ref b17)] [(.int (3 : Int32))])) (fun t k => XS.iload X24.here hx rfl (hb hby at_121) rfl k) ?_
    refine Goes.st (U' := T24.setTop (mkF m 124 #[.val (.int p1), .val (.int p2), .val (.int p3), .val (.int p4), .val (.int p5), .val (.int p6), .val (.int (p1 &&& (7 : Int32))), .val (.int (3 : Int32)), .val (.ref b17)] [(.int (2 : Int32)), (.int (3 : Int32))])) (fun t k => XS.iconst X24.here hx rfl (hb hby at_123) k) ?_
    refine Goes.st (U' := T24.setTop (mkF m 127 #[.val (.int p1), .val (.int p2), .val (.int p3), .val (.int p4), .val (.int p5), .val (.int p6), .val (.int (p1 &&& (7 : Int32))), .val (.int (3 : Int32)), .val (.ref b17)] [])) (fun t k => XS.icmpNo X24.here hx rfl (hb hby at_124) rfl (tlt (by decide : (2 : Int32) < (3 : Int32))).2.2.2 k) ?_
    refine Goes.st (U' := T24.setTop (mkF m 129 #[.val (.int p1), .val (.int p2), .val (.int p3), .val (.int p4), .val (.int p5), .val (.int p6), .val (.int (p1 &&& (7 : Int32))), .val (.int (3 : Int32)), .val (.ref b17)] [(.ref b17)])) (fun t k => XS.aload X24.here hx rfl (hb hby at_127) rfl rfl k) ?_
    refine Goes.st (U' := T24.setTop (mkF m 130 #[.val (.int p1), .val (.int p2), .val (.int p3), .val (.int p4), .val (.int p5), .val (.int p6), .val (.int (p1 &&& (7 : Int32))), .val (.int (3 : Int32)), .val (.ref b17)] [(.int (2 : Int32)), (.ref b17)])) (fun t k => XS.iconst X24.here hx rfl (hb hby at_129) k) ?_
    obtain ⟨cq25, kq25, q25a, q25b, q25c⟩ := isOf hZ e24 I21.1
    obtain ⟨_, _, ⟨T25, L25, k25, n25⟩, -, X25, ⟨Lc25, hQ25, l25, y25, z25⟩, st25⟩ := X24.virtualBack hx (y := (⟨"com/example/cosine/cosine/index/IntList", "get", "(I)I"⟩ : MethodName)) (z := (⟨"com/example/cosine/cosine/index/IntList", "get", "(I)I"⟩ : MethodName)) hown (mvT hZ (hw _ (List.mem_of_getElem? (i := 46) rfl))) (mvT hZ (hw _ (List.mem_of_getElem? (i := 47) rfl))) (notFace_of_selects (args := #[]) (mvT hZ (hw _ (List.mem_of_getElem? (i := 49) rfl)))) (mvT hZ (hw _ (List.mem_of_getElem? (i := 49) rfl))) (mvT hZ (hw _ (List.mem_of_getElem? (i := 48) rfl))) (by decide) (backOf (W := 0) (rm9 l Z a0 hw [] b17 (2 : Int32) ar21 ka21 za21 [p3, p4, p5] p5 T21.heap n0 (Nat.le_trans (Nat.le_trans (Nat.le_trans (Nat.le_trans (Nat.le_trans Z0 E17.1) K18.1) K19.1) K20.1) K21.1) I21 (by decide) (Nat.le_of_ble_eq_true rfl) rfl) hZ (hw _ (List.mem_of_getElem? (i := 50) rfl)) (hw _ (List.mem_of_getElem? (i := 3) rfl)) (by decide) (by decide)) q25a q25c (g := (mkF m 130 #[.val (.int p1), .val (.int p2), .val (.int p3), .val (.int p4), .val (.int p5), .val (.int p6), .val (.int (p1 &&& (7 : Int32))), .val (.int (3 : Int32)), .val (.ref b17)] [(.int (2 : Int32)), (.ref b17)])) rfl (by rw [hml]; rfl) (Steps.refl _) (argsL := [(.int (2 : Int32))]) (rest := []) (lenOf pd_5 rfl) rfl (by show 2 * 0 + _ ≤ _; exact Nat.le_of_eq rfl) (hb hby at_130) (fun _ _ => ⟨rfl, e24, (by decide : 5 + 0 ≤ _), (by decide : 34 + 0 ≤ _)⟩)
    dsimp only [Pt.U, Pt.locs, Pt.cells, Pt.slots] at X25 l25 y25 z25 st25 hQ25
    subst l25 y25 z25
    obtain ⟨rfl, N25q, e25⟩ := hQ25
    have N25 := Fr.app N24 N25q
    replace e25 := e25
    refine Goes.tr (U' := T25.setTop (mkF m 133 #[.val (.int p1), .val (.int p2), .val (.int p3), .val (.int p4), .val (.int p5), .val (.int p6), .val (.int (p1 &&& (7 : Int32))), .val (.int (3 : Int32)), .val (.ref b17)] [(.int p5)])) st25 ?_
    refine Goes.st (U' := T25.setTop (mkF m 135 #[.val (.int p1), .val (.int p2), .val (.int p3), .val (.int p4), .val (.int p5), .val (.int p6), .val (.int (p1 &&& (7 : Int32))), .val (.int (3 : Int32)), .val (.ref b17)] [(.int p5), (.int p5)])) (fun t k => XS.iload X25.here hx rfl (hb hby at_133) rfl k) ?_
    refine Goes.st (U' := T25.setTop (mkF m 140 #[.val (.int p1), .val (.int p2), .val (.int p3), .val (.int p4), .val (.int p5), .val (.int p6), .val (.int (p1 &&& (7 : Int32))), .val (.int (3 : Int32)), .val (.ref b17)] [])) (fun t k => XS.icmpYes X25.here hx rfl (pc0 := 135) (pc' := 140) rfl (hb hby at_135) rfl (teq (rfl : p5 = p5)).1 (by decide) (by decide) k) ?_
    refine Goes.st (U' := T25.setTop (mkF m 142 #[.val (.int p1), .val (.int p2), .val (.int p3), .val (.int p4), .val (.int p5), .val (.int p6), .val (.int (p1 &&& (7 : Int32))), .val (.int (3 : Int32)), .val (.ref b17)] [(.int (3 : Int32))])) (fun t k => XS.iload X25.here hx rfl (hb hby at_140) rfl k) ?_
    refine Goes.st (U' := T25.setTop (mkF m 143 #[.val (.int p1), .val (.int p2), .val (.int p3), .val (.int p4), .val (.int p5), .val (.int p6), .val (.int (p1 &&& (7 : Int32))), .val (.int (3 : Int32)), .val (.ref b17)] [(.int (3 : Int32)), (.int (3 : Int32))])) (fun t k => XS.iconst X25.here hx rfl (hb hby at_142) k) ?_
    refine Goes.st (U' := T25.setTop (mkF m 159 #[.val (.int p1), .val (.int p2), .val (.int p3), .val (.int p4), .val (.int p5), .val (.int p6), .val (.int (p1 &&& (7 : Int32))), .val (.int (3 : Int32)), .val (.ref b17)] [])) (fun t k => XS.icmpYes X25.here hx rfl (pc0 := 143) (pc' := 159) rfl (hb hby at_143) rfl (flt (by decide : ¬ ((3 : Int32) < (3 : Int32)))).2.2.2 (by decide) (by decide) k) ?_
    refine Goes.st (U' := T25.setTop (mkF m 160 #[.val (.int p1), .val (.int p2), .val (.int p3), .val (.int p4), .val (.int p5), .val (.int p6), .val (.int (p1 &&& (7 : Int32))), .val (.int (3 : Int32)), .val (.ref b17)] [(.int (1 : Int32))])) (fun t k => XS.iconst X25.here hx rfl (hb hby at_159) k) ?_
    refine Goes.retZ X25 hx (BodyLoose.notSynchronized Bd) Bd.returns (hb hby at_160) rfl (by decide) (by decide) ?_
    show Q0 Z p1 p2 p3 p4 p5 p6 h0 n0 _ T25.heap _
    rw [e25]
    exact ⟨rfl, N25⟩
  · skip
    refine Goes.st (U' := s₁.setTop (mkF m 14 #[.val (.int p1), .val (.int p2), .val (.int p3), .val (.int p4), .val (.int p5), .val (.int p6), .val (.int (p1 &&& (7 : Int32))), .val (.int (4 : Int32)), .unset] [])) (fun t k => XS.istore X0.here hx rfl (hb hby at_12) rfl (l' := #[.val (.int p1), .val (.int p2), .val (.int p3), .val (.int p4), .val (.int p5), .val (.int p6), .val (.int (p1 &&& (7 : Int32))), .val (.int (4 : Int32)), .unset]) rfl k) ?_
    obtain ⟨T26, h26, X26, e26, E26, A26, D26, -, st26⟩ := newO X0 hx hZ hown (hw _ (List.mem_of_getElem? (i := 1) rfl)) (hw _ (List.mem_of_getElem? (i := 2) rfl)) (hw _ (List.mem_of_getElem? (i := 3) rfl)) e0 (g := (mkF m 14 #[.val (.int p1), .val (.int p2), .val (.int p3), .val (.int p4), .val (.int p5), .val (.int p6), .val (.int (p1 &&& (7 : Int32))), .val (.int (4 : Int32)), .unset] [])) rfl (hb hby at_14) (by decide) (by decide)
    obtain ⟨b26, g26⟩ : ∃ z, z = h0.size := ⟨_, rfl⟩
    rw [← g26] at A26 D26 st26
    have g_b26 : n0 ≤ b26 := Nat.le_trans Z0 (Nat.le_of_eq g26.symm)
    have F_values_b26 : Fld Z h26 b26 "com/example/cosine/cosine/index/IntList" "values" "[I" .null := D26 (Or.inl (hw _ (List.mem_of_getElem? (i := 12) rfl))) (ty := (.array .int)) (by decide)
    have F_size_b26 : Fld Z h26 b26 "com/example/cosine/cosine/index/IntList" "size" "I" (.int (0 : Int32)) := D26 (Or.inl (hw _ (List.mem_of_getElem? (i := 19) rfl))) (ty := .int) (by decide)
    refine Goes.st (U' := T26.setTop (mkF m 17 #[.val (.int p1), .val (.int p2), .val (.int p3), .val (.int p4), .val (.int p5), .val (.int p6), .val (.int (p1 &&& (7 : Int32))), .val (.int (4 : Int32)), .unset] [(.ref b26)])) (fun t k => st26 t k) ?_
    refine Goes.st (U' := T26.setTop (mkF m 18 #[.val (.int p1), .val (.int p2), .val (.int p3), .val (.int p4), .val (.int p5), .val (.int p6), .val (.int (p1 &&& (7 : Int32))), .val (.int (4 : Int32)), .unset] [(.ref b26), (.ref b26)])) (fun t k => XS.dup X26.here hx rfl (hb hby at_17) rfl rfl k) ?_
    refine Goes.st (U' := T26.setTop (mkF m 20 #[.val (.int p1), .val (.int p2), .val (.int p3), .val (.int p4), .val (.int p5), .val (.int p6), .val (.int (p1 &&& (7 : Int32))), .val (.int (4 : Int32)), .unset] [(.int (p1 &&& (7 : Int32))), (.ref b26), (.ref b26)])) (fun t k => XS.iload X26.here hx rfl (hb hby at_18) rfl k) ?_
    obtain ⟨_, _, ⟨T27, L27, k27, n27⟩, -, X27, ⟨Lc27, hQ27, l27, y27, z27⟩, st27⟩ := X26.specialBack hx (y := (⟨"com/example/cosine/cosine/index/IntList", "<init>", "(I)V"⟩ : MethodName)) rfl hown (mvT hZ (hw _ (List.mem_of_getElem? (i := 4) rfl))) (mvT hZ (hw _ (List.mem_of_getElem? (i := 5) rfl))) (mvT hZ (hw _ (List.mem_of_getElem? (i := 6) rfl))) (by decide) (backOf (W := 1) (rm1 l Z a0 hw [] b26 (p1 &&& (7 : Int32)) h26 n0 (Nat.le_trans Z0 E26.1) A26 F_values_b26 F_size_b26 g_b26 (own_cap p1).1 (own_cap p1).2) hZ (hw _ (List.mem_of_getElem? (i := 6) rfl)) (hw _ (List.mem_of_getElem? (i := 3) rfl)) (by decide) (by decide)) (g := (mkF m 20 #[.val (.int p1), .val (.int p2), .val (.int p3), .val (.int p4), .val (.int p5), .val (.int p6), .val (.int (p1 &&& (7 : Int32))), .val (.int (4 : Int32)), .unset] [(.int (p1 &&& (7 : Int32))), (.ref b26), (.ref b26)])) rfl (by rw [hml]; rfl) (Steps.refl _) (a := b26) (argsL := [(.int (p1 &&& (7 : Int32)))]) (rest := [(.ref b26)]) (lenOf pd_3 rfl) rfl (by show 2 * 0 + _ ≤ _; exact Nat.le_of_eq rfl) (hb hby at_20) (fun _ _ => ⟨rfl, e26, (by decide : 1 + 1 ≤ _), (by decide : 2 + 8 ≤ _)⟩)
    dsimp only [Pt.U, Pt.locs, Pt.cells, Pt.slots] at X27 l27 y27 z27 st27 hQ27
    subst l27 y27 z27
    obtain ⟨rfl, N27q, K27, ar27, ka27, I27, g_ar27, u27⟩ := hQ27
    have N27 := Fr.app N0 N27q
    have ne_b26_ar27 : b26 ≠ ar27 := Nat.ne_of_lt (Nat.lt_of_lt_of_le A26.lt u27)
    refine Goes.tr (U' := T27.setTop (mkF m 23 #[.val (.int p1), .val (.int p2), .val (.int p3), .val (.int p4), .val (.int p5), .val (.int p6), .val (.int (p1 &&& (7 : Int32))), .val (.int (4 : Int32)), .unset] [(.ref b26)])) st27 ?_
    refine Goes.st (U' := T27.setTop (mkF m 25 #[.val (.int p1), .val (.int p2), .val (.int p3), .val (.int p4), .val (.int p5), .val (.int p6), .val (.int (p1 &&& (7 : Int32))), .val (.int (4 : Int32)), .val (.ref b26)] [])) (fun t k => XS.astore X27.here hx rfl (hb hby at_23) rfl rfl (l' := #[.val (.int p1), .val (.int p2), .val (.int p3), .val (.int p4), .val (.int p5), .val (.int p6), .val (.int (p1 &&& (7 : Int32))), .val (.int (4 : Int32)), .val (.ref b26)]) rfl k) ?_
    refine Goes.st (U' := T27.setTop (mkF m 27 #[.val (.int p1), .val (.int p2), .val (.int p3), .val (.int p4), .val (.int p5), .val (.int p6), .val (.int (p1 &&& (7 : Int32))), .val (.int (4 : Int32)), .val (.ref b26)] [(.int (4 : Int32))])) (fun t k => XS.iload X27.here hx rfl (hb hby at_25) rfl k) ?_
    refine Goes.st (U' := T27.setTop (mkF m 30 #[.val (.int p1), .val (.int p2), .val (.int p3), .val (.int p4), .val (.int p5), .val (.int p6), .val (.int (p1 &&& (7 : Int32))), .val (.int (4 : Int32)), .val (.ref b26)] [])) (fun t k => XS.ifNo X27.here hx rfl (hb hby at_27) rfl ((if0 _ _).trans (tlt (by decide : (0 : Int32) < (4 : Int32))).2.2.2) k) ?_
    refine Goes.st (U' := T27.setTop (mkF m 32 #[.val (.int p1), .val (.int p2), .val (.int p3), .val (.int p4), .val (.int p5), .val (.int p6), .val (.int (p1 &&& (7 : Int32))), .val (.int (4 : Int32)), .val (.ref b26)] [(.ref b26)])) (fun t k => XS.aload X27.here hx rfl (hb hby at_30) rfl rfl k) ?_
    refine Goes.st (U' := T27.setTop (mkF m 33 #[.val (.int p1), .val (.int p2), .val (.int p3), .val (.int p4), .val (.int p5), .val (.int p6), .val (.int (p1 &&& (7 : Int32))), .val (.int (4 : Int32)), .val (.ref b26)] [(.int p3), (.ref b26)])) (fun t k => XS.iloadN X27.here hx rfl (hb hby at_32) rfl k) ?_
    obtain ⟨cq28, kq28, q28a, q28b, q28c⟩ := isOf hZ rfl I27.1
    obtain ⟨_, _, ⟨T28, L28, k28, n28⟩, -, X28, ⟨Lc28, hQ28, l28, y28, z28⟩, st28⟩ := X27.virtualBack hx (y := (⟨"com/example/cosine/cosine/index/IntList", "add", "(I)V"⟩ : MethodName)) (z := (⟨"com/example/cosine/cosine/index/IntList", "add", "(I)V"⟩ : MethodName)) hown (mvT hZ (hw _ (List.mem_of_getElem? (i := 13) rfl))) (mvT hZ (hw _ (List.mem_of_getElem? (i := 14) rfl))) (notFace_of_selects (args := #[]) (mvT hZ (hw _ (List.mem_of_getElem? (i := 16) rfl)))) (mvT hZ (hw _ (List.mem_of_getElem? (i := 16) rfl))) (mvT hZ (hw _ (List.mem_of_getElem? (i := 15) rfl))) (by decide) (backOf (W := 0) (rm3 l Z a0 hw [] b26 p3 ar27 ka27 (p1 &&& (7 : Int32)) [] T27.heap n0 (Nat.le_trans (Nat.le_trans Z0 E26.1) K27.1) I27 (Nat.le_of_ble_eq_true rfl) g_b26 g_ar27) hZ (hw _ (List.mem_of_getElem? (i := 17) rfl)) (hw _ (List.mem_of_getElem? (i := 3) rfl)) (by decide) (by decide)) q28a q28c (g := (mkF m 33 #[.val (.int p1), .val (.int p2), .val (.int p3), .val (.int p4), .val (.int p5), .val (.int p6), .val (.int (p1 &&& (7 : Int32))), .val (.int (4 : Int32)), .val (.ref b26)] [(.int p3), (.ref b26)])) rfl (by rw [hml]; rfl) (Steps.refl _) (argsL := [(.int p3)]) (rest := []) (lenOf pd_3 rfl) rfl (by show 2 * 0 + _ ≤ _; exact Nat.le_of_eq rfl) (hb hby at_33) (fun _ _ => ⟨rfl, rfl, (by decide : 2 + 1 ≤ _), (by decide : 10 + 8 ≤ _)⟩)
    dsimp only [Pt.U, Pt.locs, Pt.cells, Pt.slots] at X28 l28 y28 z28 st28 hQ28
    subst l28 y28 z28
    obtain ⟨rfl, N28q, K28, ar28, ka28, za28, I28, g_ar28, u28⟩ := hQ28
    have N28 := Fr.app N27 N28q
    have ne_b26_ar28 : b26 ≠ ar28 := I28.2.2.2.2.2.2.2.2
    refine Goes.tr (U' := T28.setTop (mkF m 36 #[.val (.int p1), .val (.int p2), .val (.int p3), .val (.int p4), .val (.int p5), .val (.int p6), .val (.int (p1 &&& (7 : Int32))), .val (.int (4 : Int32)), .val (.ref b26)] [])) st28 ?_
    refine Goes.st (U' := T28.setTop (mkF m 38 #[.val (.int p1), .val (.int p2), .val (.int p3), .val (.int p4), .val (.int p5), .val (.int p6), .val (.int (p1 &&& (7 : Int32))), .val (.int (4 : Int32)), .val (.ref b26)] [(.int (4 : Int32))])) (fun t k => XS.iload X28.here hx rfl (hb hby at_36) rfl k) ?_
    refine Goes.st (U' := T28.setTop (mkF m 39 #[.val (.int p1), .val (.int p2), .val (.int p3), .val (.int p4), .val (.int p5), .val (.int p6), .val (.int (p1 &&& (7 : Int32))), .val (.int (4 : Int32)), .val (.ref b26)] [(.int (1 : Int32)), (.int (4 : Int32))])) (fun t k => XS.iconst X28.here hx rfl (hb hby at_38) k) ?_
    refine Goes.st (U' := T28.setTop (mkF m 42 #[.val (.int p1), .val (.int p2), .val (.int p3), .val (.int p4), .val (.int p5), .val (.int p6), .val (.int (p1 &&& (7 : Int32))), .val (.int (4 : Int32)), .val (.ref b26)] [])) (fun t k => XS.icmpNo X28.here hx rfl (hb hby at_39) rfl (tlt (by decide : (1 : Int32) < (4 : Int32))).2.2.2 k) ?_
    refine Goes.st (U' := T28.setTop (mkF m 44 #[.val (.int p1), .val (.int p2), .val (.int p3), .val (.int p4), .val (.int p5), .val (.int p6), .val (.int (p1 &&& (7 : Int32))), .val (.int (4 : Int32)), .val (.ref b26)] [(.ref b26)])) (fun t k => XS.aload X28.here hx rfl (hb hby at_42) rfl rfl k) ?_
    refine Goes.st (U' := T28.setTop (mkF m 45 #[.val (.int p1), .val (.int p2), .val (.int p3), .val (.int p4), .val (.int p5), .val (.int p6), .val (.int (p1 &&& (7 : Int32))), .val (.int (4 : Int32)), .val (.ref b26)] [(.int p4), (.ref b26)])) (fun t k => XS.iloadN X28.here hx rfl (hb hby at_44) rfl k) ?_
    obtain ⟨cq29, kq29, q29a, q29b, q29c⟩ := isOf hZ rfl I28.1
    obtain ⟨_, _, ⟨T29, L29, k29, n29⟩, -, X29, ⟨Lc29, hQ29, l29, y29, z29⟩, st29⟩ := X28.virtualBack hx (y := (⟨"com/example/cosine/cosine/index/IntList", "add", "(I)V"⟩ : MethodName)) (z := (⟨"com/example/cosine/cosine/index/IntList", "add", "(I)V"⟩ : MethodName)) hown (mvT hZ (hw _ (List.mem_of_getElem? (i := 13) rfl))) (mvT hZ (hw _ (List.mem_of_getElem? (i := 14) rfl))) (notFace_of_selects (args := #[]) (mvT hZ (hw _ (List.mem_of_getElem? (i := 16) rfl)))) (mvT hZ (hw _ (List.mem_of_getElem? (i := 16) rfl))) (mvT hZ (hw _ (List.mem_of_getElem? (i := 15) rfl))) (by decide) (backOf (W := 0) (rm3 l Z a0 hw [] b26 p4 ar28 ka28 za28 [p3] T28.heap n0 (Nat.le_trans (Nat.le_trans (Nat.le_trans Z0 E26.1) K27.1) K28.1) I28 (Nat.le_of_ble_eq_true rfl) g_b26 g_ar28) hZ (hw _ (List.mem_of_getElem? (i := 17) rfl)) (hw _ (List.mem_of_getElem? (i := 3) rfl)) (by decide) (by decide)) q29a q29c (g := (mkF m 45 #[.val (.int p1), .val (.int p2), .val (.int p3), .val (.int p4), .val (.int p5), .val (.int p6), .val (.int (p1 &&& (7 : Int32))), .val (.int (4 : Int32)), .val (.ref b26)] [(.int p4), (.ref b26)])) rfl (by rw [hml]; rfl) (Steps.refl _) (argsL := [(.int p4)]) (rest := []) (lenOf pd_3 rfl) rfl (by show 2 * 0 + _ ≤ _; exact Nat.le_of_eq rfl) (hb hby at_45) (fun _ _ => ⟨rfl, rfl, (by decide : 3 + 1 ≤ _), (by decide : 18 + 8 ≤ _)⟩)
    dsimp only [Pt.U, Pt.locs, Pt.cells, Pt.slots] at X29 l29 y29 z29 st29 hQ29
    subst l29 y29 z29
    obtain ⟨rfl, N29q, K29, ar29, ka29, za29, I29, g_ar29, u29⟩ := hQ29
    have N29 := Fr.app N28 N29q
    have ne_b26_ar29 : b26 ≠ ar29 := I29.2.2.2.2.2.2.2.2
    refine Goes.tr (U' := T29.setTop (mkF m 48 #[.val (.int p1), .val (.int p2), .val (.int p3), .val (.int p4), .val (.int p5), .val (.int p6), .val (.int (p1 &&& (7 : Int32))), .val (.int (4 : Int32)), .val (.ref b26)] [])) st29 ?_
    refine Goes.st (U' := T29.setTop (mkF m 50 #[.val (.int p1), .val (.int p2), .val (.int p3), .val (.int p4), .val (.int p5), .val (.int p6), .val (.int (p1 &&& (7 : Int32))), .val (.int (4 : Int32)), .val (.ref b26)] [(.int (4 : Int32))])) (fun t k => XS.iload X29.here hx rfl (hb hby at_48) rfl k) ?_
    refine Goes.st (U' := T29.setTop (mkF m 51 #[.val (.int p1), .val (.int p2), .val (.int p3), .val (.int p4), .val (.int p5), .val (.int p6), .val (.int (p1 &&& (7 : Int32))), .val (.int (4 : Int32)), .val (.ref b26)] [(.int (2 : Int32)), (.int (4 : Int32))])) (fun t k => XS.iconst X29.here hx rfl (hb hby at_50) k) ?_
    refine Goes.st (U' := T29.setTop (mkF m 54 #[.val (.int p1), .val (.int p2), .val (.int p3), .val (.int p4), .val (.int p5), .val (.int p6), .val (.int (p1 &&& (7 : Int32))), .val (.int (4 : Int32)), .val (.ref b26)] [])) (fun t k => XS.icmpNo X29.here hx rfl (hb hby at_51) rfl (tlt (by decide : (2 : Int32) < (4 : Int32))).2.2.2 k) ?_
    refine Goes.st (U' := T29.setTop (mkF m 56 #[.val (.int p1), .val (.int p2), .val (.int p3), .val (.int p4), .val (.int p5), .val (.int p6), .val (.int (p1 &&& (7 : Int32))), .val (.int (4 : Int32)), .val (.ref b26)] [(.ref b26)])) (fun t k => XS.aload X29.here hx rfl (hb hby at_54) rfl rfl k) ?_
    refine Goes.st (U' := T29.setTop (mkF m 58 #[.val (.int p1), .val (.int p2), .val (.int p3), .val (.int p4), .val (.int p5), .val (.int p6), .val (.int (p1 &&& (7 : Int32))), .val (.int (4 : Int32)), .val (.ref b26)] [(.int p5), (.ref b26)])) (fun t k => XS.iload X29.here hx rfl (hb hby at_56) rfl k) ?_
    obtain ⟨cq30, kq30, q30a, q30b, q30c⟩ := isOf hZ rfl I29.1
    obtain ⟨_, _, ⟨T30, L30, k30, n30⟩, -, X30, ⟨Lc30, hQ30, l30, y30, z30⟩, st30⟩ := X29.virtualBack hx (y := (⟨"com/example/cosine/cosine/index/IntList", "add", "(I)V"⟩ : MethodName)) (z := (⟨"com/example/cosine/cosine/index/IntList", "add", "(I)V"⟩ : MethodName)) hown (mvT hZ (hw _ (List.mem_of_getElem? (i := 13) rfl))) (mvT hZ (hw _ (List.mem_of_getElem? (i := 14) rfl))) (notFace_of_selects (args := #[]) (mvT hZ (hw _ (List.mem_of_getElem? (i := 16) rfl)))) (mvT hZ (hw _ (List.mem_of_getElem? (i := 16) rfl))) (mvT hZ (hw _ (List.mem_of_getElem? (i := 15) rfl))) (by decide) (backOf (W := 0) (rm3 l Z a0 hw [] b26 p5 ar29 ka29 za29 [p3, p4] T29.heap n0 (Nat.le_trans (Nat.le_trans (Nat.le_trans (Nat.le_trans Z0 E26.1) K27.1) K28.1) K29.1) I29 (Nat.le_of_ble_eq_true rfl) g_b26 g_ar29) hZ (hw _ (List.mem_of_getElem? (i := 17) rfl)) (hw _ (List.mem_of_getElem? (i := 3) rfl)) (by decide) (by decide)) q30a q30c (g := (mkF m 58 #[.val (.int p1), .val (.int p2), .val (.int p3), .val (.int p4), .val (.int p5), .val (.int p6), .val (.int (p1 &&& (7 : Int32))), .val (.int (4 : Int32)), .val (.ref b26)] [(.int p5), (.ref b26)])) rfl (by rw [hml]; rfl) (Steps.refl _) (argsL := [(.int p5)]) (rest := []) (lenOf pd_3 rfl) rfl (by show 2 * 0 + _ ≤ _; exact Nat.le_of_eq rfl) (hb hby at_58) (fun _ _ => ⟨rfl, rfl, (by decide : 4 + 1 ≤ _), (by decide : 26 + 8 ≤ _)⟩)
    dsimp only [Pt.U, Pt.locs, Pt.cells, Pt.slots] at X30 l30 y30 z30 st30 hQ30
    subst l30 y30 z30
    obtain ⟨rfl, N30q, K30, ar30, ka30, za30, I30, g_ar30, u30⟩ := hQ30
    have N30 := Fr.app N29 N30q
    have ne_b26_ar30 : b26 ≠ ar30 := I30.2.2.2.2.2.2.2.2
    refine Goes.tr (U' := T30.setTop (mkF m 61 #[.val (.int p1), .val (.int p2), .val (.int p3), .val (.int p4), .val (.int p5), .val (.int p6), .val (.int (p1 &&& (7 : Int32))), .val (.int (4 : Int32)), .val (.ref b26)] [])) st30 ?_
    refine Goes.st (U' := T30.setTop (mkF m 63 #[.val (.int p1), .val (.int p2), .val (.int p3), .val (.int p4), .val (.int p5), .val (.int p6), .val (.int (p1 &&& (7 : Int32))), .val (.int (4 : Int32)), .val (.ref b26)] [(.int (4 : Int32))])) (fun t k => XS.iload X30.here hx rfl (hb hby at_61) rfl k) ?_
    refine Goes.st (U' := T30.setTop (mkF m 64 #[.val (.int p1), .val (.int p2), .val (.int p3), .val (.int p4), .val (.int p5), .val (.int p6), .val (.int (p1 &&& (7 : Int32))), .val (.int (4 : Int32)), .val (.ref b26)] [(.int (3 : Int32)), (.int (4 : Int32))])) (fun t k => XS.iconst X30.here hx rfl (hb hby at_63) k) ?_
    refine Goes.st (U' := T30.setTop (mkF m 67 #[.val (.int p1), .val (.int p2), .val (.int p3), .val (.int p4), .val (.int p5), .val (.int p6), .val (.int (p1 &&& (7 : Int32))), .val (.int (4 : Int32)), .val (.ref b26)] [])) (fun t k => XS.icmpNo X30.here hx rfl (hb hby at_64) rfl (tlt (by decide : (3 : Int32) < (4 : Int32))).2.2.2 k) ?_
    refine Goes.st (U' := T30.setTop (mkF m 69 #[.val (.int p1), .val (.int p2), .val (.int p3), .val (.int p4), .val (.int p5), .val (.int p6), .val (.int (p1 &&& (7 : Int32))), .val (.int (4 : Int32)), .val (.ref b26)] [(.ref b26)])) (fun t k => XS.aload X30.here hx rfl (hb hby at_67) rfl rfl k) ?_
    refine Goes.st (U' := T30.setTop (mkF m 71 #[.val (.int p1), .val (.int p2), .val (.int p3), .val (.int p4), .val (.int p5), .val (.int p6), .val (.int (p1 &&& (7 : Int32))), .val (.int (4 : Int32)), .val (.ref b26)] [(.int p6), (.ref b26)])) (fun t k => XS.iload X30.here hx rfl (hb hby at_69) rfl k) ?_
    obtain ⟨cq31, kq31, q31a, q31b, q31c⟩ := isOf hZ rfl I30.1
    obtain ⟨_, _, ⟨T31, L31, k31, n31⟩, -, X31, ⟨Lc31, hQ31, l31, y31, z31⟩, st31⟩ := X30.virtualBack hx (y := (⟨"com/example/cosine/cosine/index/IntList", "add", "(I)V"⟩ : MethodName)) (z := (⟨"com/example/cosine/cosine/index/IntList", "add", "(I)V"⟩ : MethodName)) hown (mvT hZ (hw _ (List.mem_of_getElem? (i := 13) rfl))) (mvT hZ (hw _ (List.mem_of_getElem? (i := 14) rfl))) (notFace_of_selects (args := #[]) (mvT hZ (hw _ (List.mem_of_getElem? (i := 16) rfl)))) (mvT hZ (hw _ (List.mem_of_getElem? (i := 16) rfl))) (mvT hZ (hw _ (List.mem_of_getElem? (i := 15) rfl))) (by decide) (backOf (W := 0) (rm3 l Z a0 hw [] b26 p6 ar30 ka30 za30 [p3, p4, p5] T30.heap n0 (Nat.le_trans (Nat.le_trans (Nat.le_trans (Nat.le_trans (Nat.le_trans Z0 E26.1) K27.1) K28.1) K29.1) K30.1) I30 (Nat.le_of_ble_eq_true rfl) g_b26 g_ar30) hZ (hw _ (List.mem_of_getElem? (i := 17) rfl)) (hw _ (List.mem_of_getElem? (i := 3) rfl)) (by decide) (by decide)) q31a q31c (g := (mkF m 71 #[.val (.int p1), .val (.int p2), .val (.int p3), .val (.int p4), .val (.int p5), .val (.int p6), .val (.int (p1 &&& (7 : Int32))), .val (.int (4 : Int32)), .val (.ref b26)] [(.int p6), (.ref b26)])) rfl (by rw [hml]; rfl) (Steps.refl _) (argsL := [(.int p6)]) (rest := []) (lenOf pd_3 rfl) rfl (by show 2 * 0 + _ ≤ _; exact Nat.le_of_eq rfl) (hb hby at_71) (fun _ _ => ⟨rfl, rfl, (by decide : 5 + 1 ≤ _), (by decide : 34 + 8 ≤ _)⟩)
    dsimp only [Pt.U, Pt.locs, Pt.cells, Pt.slots] at X31 l31 y31 z31 st31 hQ31
    subst l31 y31 z31
    obtain ⟨rfl, N31q, K31, ar31, ka31, za31, I31, g_ar31, u31⟩ := hQ31
    have N31 := Fr.app N30 N31q
    have ne_b26_ar31 : b26 ≠ ar31 := I31.2.2.2.2.2.2.2.2
    refine Goes.tr (U' := T31.setTop (mkF m 74 #[.val (.int p1), .val (.int p2), .val (.int p3), .val (.int p4), .val (.int p5), .val (.int p6), .val (.int (p1 &&& (7 : Int32))), .val (.int (4 : Int32)), .val (.ref b26)] [])) st31 ?_
    refine Goes.st (U' := T31.setTop (mkF m 76 #[.val (.int p1), .val (.int p2), .val (.int p3), .val (.int p4), .val (.int p5), .val (.int p6), .val (.int (p1 &&& (7 : Int32))), .val (.int (4 : Int32)), .val (.ref b26)] [(.ref b26)])) (fun t k => XS.aload X31.here hx rfl (hb hby at_74) rfl rfl k) ?_
    obtain ⟨cq32, kq32, q32a, q32b, q32c⟩ := isOf hZ rfl I31.1
    obtain ⟨_, _, ⟨T32, L32, k32, n32⟩, -, X32, ⟨Lc32, hQ32, l32, y32, z32⟩, st32⟩ := X31.virtualBack hx (y := (⟨"com/example/cosine/cosine/index/IntList", "size", "()I"⟩ : MethodName)) (z := (⟨"com/example/cosine/cosine/index/IntList", "size", "()I"⟩ : MethodName)) hown (mvT hZ (hw _ (List.mem_of_getElem? (i := 41) rfl))) (mvT hZ (hw _ (List.mem_of_getElem? (i := 42) rfl))) (notFace_of_selects (args := #[]) (mvT hZ (hw _ (List.mem_of_getElem? (i := 44) rfl)))) (mvT hZ (hw _ (List.mem_of_getElem? (i := 44) rfl))) (mvT hZ (hw _ (List.mem_of_getElem? (i := 43) rfl))) (by decide) (backOf (W := 0) (rm8 l Z a0 hw [] b26 ar31 ka31 za31 [p3, p4, p5, p6] T31.heap n0 (Nat.le_trans (Nat.le_trans (Nat.le_trans (Nat.le_trans (Nat.le_trans (Nat.le_trans Z0 E26.1) K27.1) K28.1) K29.1) K30.1) K31.1) I31) hZ (hw _ (List.mem_of_getElem? (i := 45) rfl)) (hw _ (List.mem_of_getElem? (i := 3) rfl)) (by decide) (by decide)) q32a q32c (g := (mkF m 76 #[.val (.int p1), .val (.int p2), .val (.int p3), .val (.int p4), .val (.int p5), .val (.int p6), .val (.int (p1 &&& (7 : Int32))), .val (.int (4 : Int32)), .val (.ref b26)] [(.ref b26)])) rfl (by rw [hml]; rfl) (Steps.refl _) (argsL := []) (rest := []) (lenOf pd_4 rfl) rfl (by show 2 * 0 + _ ≤ _; exact Nat.le_of_eq rfl) (hb hby at_76) (fun _ _ => ⟨rfl, rfl, (by decide : 6 + 0 ≤ _), (by decide : 42 + 0 ≤ _)⟩)
    dsimp only [Pt.U, Pt.locs, Pt.cells, Pt.slots] at X32 l32 y32 z32 st32 hQ32
    subst l32 y32 z32
    obtain ⟨rfl, N32q, e32⟩ := hQ32
    have N32 := Fr.app N31 N32q
    replace e32 := e32
    refine Goes.tr (U' := T32.setTop (mkF m 79 #[.val (.int p1), .val (.int p2), .val (.int p3), .val (.int p4), .val (.int p5), .val (.int p6), .val (.int (p1 &&& (7 : Int32))), .val (.int (4 : Int32)), .val (.ref b26)] [(.int (4 : Int32))])) st32 ?_
    refine Goes.st (U' := T32.setTop (mkF m 81 #[.val (.int p1), .val (.int p2), .val (.int p3), .val (.int p4), .val (.int p5), .val (.int p6), .val (.int (p1 &&& (7 : Int32))), .val (.int (4 : Int32)), .val (.ref b26)] [(.int (4 : Int32)), (.int (4 : Int32))])) (fun t k => XS.iload X32.here hx rfl (hb hby at_79) rfl k) ?_
    refine Goes.st (U' := T32.setTop (mkF m 86 #[.val (.int p1), .val (.int p2), .val (.int p3), .val (.int p4), .val (.int p5), .val (.int p6), .val (.int (p1 &&& (7 : Int32))), .val (.int (4 : Int32)), .val (.ref b26)] [])) (fun t k => XS.icmpYes X32.here hx rfl (pc0 := 81) (pc' := 86) rfl (hb hby at_81) rfl (teq (rfl : (4 : Int32) = (4 : Int32))).1 (by decide) (by decide) k) ?_
    refine Goes.st (U' := T32.setTop (mkF m 88 #[.val (.int p1), .val (.int p2), .val (.int p3), .val (.int p4), .val (.int p5), .val (.int p6), .val (.int (p1 &&& (7 : Int32))), .val (.int (4 : Int32)), .val (.ref b26)] [(.int (4 : Int32))])) (fun t k => XS.iload X32.here hx rfl (hb hby at_86) rfl k) ?_
    refine Goes.st (U' := T32.setTop (mkF m 91 #[.val (.int p1), .val (.int p2), .val (.int p3), .val (.int p4), .val (.int p5), .val (.int p6), .val (.int (p1 &&& (7 : Int32))), .val (.int (4 : Int32)), .val (.ref b26)] [])) (fun t k => XS.ifNo X32.here hx rfl (hb hby at_88) rfl ((if0 _ _).trans (tlt (by decide : (0 : Int32) < (4 : Int32))).2.2.2) k) ?_
    refine Goes.st (U' := T32.setTop (mkF m 93 #[.val (.int p1), .val (.int p2), .val (.int p3), .val (.int p4), .val (.int p5), .val (.int p6), .val (.int (p1 &&& (7 : Int32))), .val (.int (4 : Int32)), .val (.ref b26)] [(.ref b26)])) (fun t k => XS.aload X32.here hx rfl (hb hby at_91) rfl rfl k) ?_
    refine Goes.st (U' := T32.setTop (mkF m 94 #[.val (.int p1), .val (.int p2), .val (.int p3), .val (.int p4), .val (.int p5), .val (.int p6), .val (.int (p1 &&& (7 : Int32))), .val (.int (4 : Int32)), .val (.ref b26)] [(.int (0 : Int32)), (.ref b26)])) (fun t k => XS.iconst X32.here hx rfl (hb hby at_93) k) ?_
    obtain ⟨cq33, kq33, q33a, q33b, q33c⟩ := isOf hZ e32 I31.1
    obtain ⟨_, _, ⟨T33, L33, k33, n33⟩, -, X33, ⟨Lc33, hQ33, l33, y33, z33⟩, st33⟩ := X32.virtualBack hx (y := (⟨"com/example/cosine/cosine/index/IntList", "get", "(I)I"⟩ : MethodName)) (z := (⟨"com/example/cosine/cosine/index/IntList", "get", "(I)I"⟩ : MethodName)) hown (mvT hZ (hw _ (List.mem_of_getElem? (i := 46) rfl))) (mvT hZ (hw _ (List.mem_of_getElem? (i := 47) rfl))) (notFace_of_selects (args := #[]) (mvT hZ (hw _ (List.mem_of_getElem? (i := 49) rfl)))) (mvT hZ (hw _ (List.mem_of_getElem? (i := 49) rfl))) (mvT hZ (hw _ (List.mem_of_getElem? (i := 48) rfl))) (by decide) (backOf (W := 0) (rm9 l Z a0 hw [] b26 (0 : Int32) ar31 ka31 za31 [p3, p4, p5, p6] p3 T31.heap n0 (Nat.le_trans (Nat.le_trans (Nat.le_trans (Nat.le_trans (Nat.le_trans (Nat.le_trans Z0 E26.1) K27.1) K28.1) K29.1) K30.1) K31.1) I31 (by decide) (Nat.le_of_ble_eq_true rfl) rfl) hZ (hw _ (List.mem_of_getElem? (i := 50) rfl)) (hw _ (List.mem_of_getElem? (i := 3) rfl)) (by decide) (by decide)) q33a q33c (g := (mkF m 94 #[.val (.int p1), .val (.int p2), .val (.int p3), .val (.int p4), .val (.int p5), .val (.int p6), .val (.int (p1 &&& (7 : Int32))), .val (.int (4 : Int32)), .val (.ref b26)] [(.int (0 : Int32)), (.ref b26)])) rfl (by rw [hml]; rfl) (Steps.refl _) (argsL := [(.int (0 : Int32))]) (rest := []) (lenOf pd_5 rfl) rfl (by show 2 * 0 + _ ≤ _; exact Nat.le_of_eq rfl) (hb hby at_94) (fun _ _ => ⟨rfl, e32, (by decide : 6 + 0 ≤ _), (by decide : 42 + 0 ≤ _)⟩)
    dsimp only [Pt.U, Pt.locs, Pt.cells, Pt.slots] at X33 l33 y33 z33 st33 hQ33
    subst l33 y33 z33
    obtain ⟨rfl, N33q, e33⟩ := hQ33
    have N33 := Fr.app N32 N33q
    replace e33 := e33
    refine Goes.tr (U' := T33.setTop (mkF m 97 #[.val (.int p1), .val (.int p2), .val (.int p3), .val (.int p4), .val (.int p5), .val (.int p6), .val (.int (p1 &&& (7 : Int32))), .val (.int (4 : Int32)), .val (.ref b26)] [(.int p3)])) st33 ?_
    refine Goes.st (U' := T33.setTop (mkF m 98 #[.val (.int p1), .val (.int p2), .val (.int p3), .val (.int p4), .val (.int p5), .val (.int p6), .val (.int (p1 &&& (7 : Int32))), .val (.int (4 : Int32)), .val (.ref b26)] [(.int p3), (.int p3)])) (fun t k => XS.iloadN X33.here hx rfl (hb hby at_97) rfl k) ?_
    refine Goes.st (U' := T33.setTop (mkF m 103 #[.val (.int p1), .val (.int p2), .val (.int p3), .val (.int p4), .val (.int p5), .val (.int p6), .val (.int (p1 &&& (7 : Int32))), .val (.int (4 : Int32)), .val (.ref b26)] [])) (fun t k => XS.icmpYes X33.here hx rfl (pc0 := 98) (pc' := 103) rfl (hb hby at_98) rfl (teq (rfl : p3 = p3)).1 (by decide) (by decide) k) ?_
    refine Goes.st (U' := T33.setTop (mkF m 105 #[.val (.int p1), .val (.int p2), .val (.int p3), .val (.int p4), .val (.int p5), .val (.int p6), .val (.int (p1 &&& (7 : Int32))), .val (.int (4 : Int32)), .val (.ref b26)] [(.int (4 : Int32))])) (fun t k => XS.iload X33.here hx rfl (hb hby at_103) rfl k) ?_
    refine Goes.st (U' := T33.setTop (mkF m 106 #[.val (.int p1), .val (.int p2), .val (.int p3), .val (.int p4), .val (.int p5), .val (.int p6), .val (.int (p1 &&& (7 : Int32))), .val (.int (4 : Int32)), .val (.ref b26)] [(.int (1 : Int32)), (.int (4 : Int32))])) (fun t k => XS.iconst X33.here hx rfl (hb hby at_105) k) ?_
    refine Goes.st (U' := T33.setTop (mkF m 109 #[.val (.int p1), .val (.int p2), .val (.int p3), .val (.int p4), .val (.int p5), .val (.int p6), .val (.int (p1 &&& (7 : Int32))), .val (.int (4 : Int32)), .val (.ref b26)] [])) (fun t k => XS.icmpNo X33.here hx rfl (hb hby at_106) rfl (tlt (by decide : (1 : Int32) < (4 : Int32))).2.2.2 k) ?_
    refine Goes.st (U' := T33.setTop (mkF m 111 #[.val (.int p1), .val (.int p2), .val (.int p3), .val (.int p4), .val (.int p5), .val (.int p6), .val (.int (p1 &&& (7 : Int32))), .val (.int (4 : Int32)), .val (.ref b26)] [(.ref b26)])) (fun t k => XS.aload X33.here hx rfl (hb hby at_109) rfl rfl k) ?_
    refine Goes.st (U' := T33.setTop (mkF m 112 #[.val (.int p1), .val (.int p2), .val (.int p3), .val (.int p4), .val (.int p5), .val (.int p6), .val (.int (p1 &&& (7 : Int32))), .val (.int (4 : Int32)), .val (.ref b26)] [(.int (1 : Int32)), (.ref b26)])) (fun t k => XS.iconst X33.here hx rfl (hb hby at_111) k) ?_
    obtain ⟨cq34, kq34, q34a, q34b, q34c⟩ := isOf hZ e33 I31.1
    obtain ⟨_, _, ⟨T34, L34, k34, n34⟩, -, X34, ⟨Lc34, hQ34, l34, y34, z34⟩, st34⟩ := X33.virtualBack hx (y := (⟨"com/example/cosine/cosine/index/IntList", "get", "(I)I"⟩ : MethodName)) (z := (⟨"com/example/cosine/cosine/index/IntList", "get", "(I)I"⟩ : MethodName)) hown (mvT hZ (hw _ (List.mem_of_getElem? (i := 46) rfl))) (mvT hZ (hw _ (List.mem_of_getElem? (i := 47) rfl))) (notFace_of_selects (args := #[]) (mvT hZ (hw _ (List.mem_of_getElem? (i := 49) rfl)))) (mvT hZ (hw _ (List.mem_of_getElem? (i := 49) rfl))) (mvT hZ (hw _ (List.mem_of_getElem? (i := 48) rfl))) (by decide) (backOf (W := 0) (rm9 l Z a0 hw [] b26 (1 : Int32) ar31 ka31 za31 [p3, p4, p5, p6] p4 T31.heap n0 (Nat.le_trans (Nat.le_trans (Nat.le_trans (Nat.le_trans (Nat.le_trans (Nat.le_trans Z0 E26.1) K27.1) K28.1) K29.1) K30.1) K31.1) I31 (by decide) (Nat.le_of_ble_eq_true rfl) rfl) hZ (hw _ (List.mem_of_getElem? (i := 50) rfl)) (hw _ (List.mem_of_getElem? (i := 3) rfl)) (by decide) (by decide)) q34a q34c (g := (mkF m 112 #[.val (.int p1), .val (.int p2), .val (.int p3), .val (.int p4), .val (.int p5), .val (.int p6), .val (.int (p1 &&& (7 : Int32))), .val (.int (4 : Int32)), .val (.ref b26)] [(.int (1 : Int32)), (.ref b26)])) rfl (by rw [hml]; rfl) (Steps.refl _) (argsL := [(.int (1 : Int32))]) (rest := []) (lenOf pd_5 rfl) rfl (by show 2 * 0 + _ ≤ _; exact Nat.le_of_eq rfl) (hb hby at_112) (fun _ _ => ⟨rfl, e33, (by decide : 6 + 0 ≤ _), (by decide : 42 + 0 ≤ _)⟩)
    dsimp only [Pt.U, Pt.locs, Pt.cells, Pt.slots] at X34 l34 y34 z34 st34 hQ34
    subst l34 y34 z34
    obtain ⟨rfl, N34q, e34⟩ := hQ34
    have N34 := Fr.app N33 N34q
    replace e34 := e34
    refine Goes.tr (U' := T34.setTop (mkF m 115 #[.val (.int p1), .val (.int p2), .val (.int p3), .val (.int p4), .val (.int p5), .val (.int p6), .val (.int (p1 &&& (7 : Int32))), .val (.int (4 : Int32)), .val (.ref b26)] [(.int p4)])) st34 ?_
    refine Goes.st (U' := T34.setTop (mkF m 116 #[.val (.int p1), .val (.int p2), .val (.int p3), .val (.int p4), .val (.int p5), .val (.int p6), .val (.int (p1 &&& (7 : Int32))), .val (.int (4 : Int32)), .val (.ref b26)] [(.int p4), (.int p4)])) (fun t k => XS.iloadN X34.here hx rfl (hb hby at_115) rfl k) ?_
    refine Goes.st (U' := T34.setTop (mkF m 121 #[.val (.int p1), .val (.int p2), .val (.int p3), .val (.int p4), .val (.int p5), .val (.int p6), .val (.int (p1 &&& (7 : Int32))), .val (.int (4 : Int32)), .val (.ref b26)] [])) (fun t k => XS.icmpYes X34.here hx rfl (pc0 := 116) (pc' := 121) rfl (hb hby at_116) rfl (teq (rfl : p4 = p4)).1 (by decide) (by decide) k) ?_
    refine Goes.st (U' := T34.setTop (mkF m 123 #[.val (.int p1), .val (.int p2), .val (.int p3), .val (.int p4), .val (.int p5), .val (.int p6), .val (.int (p1 &&& (7 : Int32))), .val (.int (4 : Int32)), .val (.ref b26)] [(.int (4 : Int32))])) (fun t k => XS.iload X34.here hx rfl (hb hby at_121) rfl k) ?_
    refine Goes.st (U' := T34.setTop (mkF m 124 #[.val (.int p1), .val (.int p2), .val (.int p3), .val (.int p4), .val (.int p5), .val (.int p6), .val (.int (p1 &&& (7 : Int32))), .val (.int (4 : Int32)), .val (.ref b26)] [(.int (2 : Int32)), (.int (4 : Int32))])) (fun t k => XS.iconst X34.here hx rfl (hb hby at_123) k) ?_
    refine Goes.st (U' := T34.setTop (mkF m 127 #[.val (.int p1), .val (.int p2), .val (.int p3), .val (.int p4), .val (.int p5), .val (.int p6), .val (.int (p1 &&& (7 : Int32))), .val (.int (4 : Int32)), .val (.ref b26)] [])) (fun t k => XS.icmpNo X34.here hx rfl (hb hby at_124) rfl (tlt (by decide : (2 : Int32) < (4 : Int32))).2.2.2 k) ?_
    refine Goes.st (U' := T34.setTop (mkF m 129 #[.val (.int p1), .val (.int p2), .val (.int p3), .val (.int p4), .val (.int p5), .val (.int p6), .val (.int (p1 &&& (7 : Int32))), .val (.int (4 : Int32)), .val (.ref b26)] [(.ref b26)])) (fun t k => XS.aload X34.here hx rfl (hb hby at_127) rfl rfl k) ?_
    refine Goes.st (U' := T34.setTop (mkF m 130 #[.val (.int p1), .val (.int p2), .val (.int p3), .val (.int p4), .val (.int p5), .val (.int p6), .val (.int (p1 &&& (7 : Int32))), .val (.int (4 : Int32)), .val (.ref b26)] [(.int (2 : Int32)), (.ref b26)])) (fun t k => XS.iconst X34.here hx rfl (hb hby at_129) k) ?_
    obtain ⟨cq35, kq35, q35a, q35b, q35c⟩ := isOf hZ e34 I31.1
    obtain ⟨_, _, ⟨T35, L35, k35, n35⟩, -, X35, ⟨Lc35, hQ35, l35, y35, z35⟩, st35⟩ := X34.virtualBack hx (y := (⟨"com/example/cosine/cosine/index/IntList", "get", "(I)I"⟩ : MethodName)) (z := (⟨"com/example/cosine/cosine/index/IntList", "get", "(I)I"⟩ : MethodName)) hown (mvT hZ (hw _ (List.mem_of_getElem? (i := 46) rfl))) (mvT hZ (hw _ (List.mem_of_getElem? (i := 47) rfl))) (notFace_of_selects (args := #[]) (mvT hZ (hw _ (List.mem_of_getElem? (i := 49) rfl)))) (mvT hZ (hw _ (List.mem_of_getElem? (i := 49) rfl))) (mvT hZ (hw _ (List.mem_of_getElem? (i := 48) rfl))) (by decide) (backOf (W := 0) (rm9 l Z a0 hw [] b26 (2 : Int32) ar31 ka31 za31 [p3, p4, p5, p6] p5 T31.heap n0 (Nat.le_trans (Nat.le_trans (Nat.le_trans (Nat.le_trans (Nat.le_trans (Nat.le_trans Z0 E26.1) K27.1) K28.1) K29.1) K30.1) K31.1) I31 (by decide) (Nat.le_of_ble_eq_true rfl) rfl) hZ (hw _ (List.mem_of_getElem? (i := 50) rfl)) (hw _ (List.mem_of_getElem? (i := 3) rfl)) (by decide) (by decide)) q35a q35c (g := (mkF m 130 #[.val (.int p1), .val (.int p2), .val (.int p3), .val (.int p4), .val (.int p5), .val (.int p6), .val (.int (p1 &&& (7 : Int32))), .val (.int (4 : Int32)), .val (.ref b26)] [(.int (2 : Int32)), (.ref b26)])) rfl (by rw [hml]; rfl) (Steps.refl _) (argsL := [(.int (2 : Int32))]) (rest := []) (lenOf pd_5 rfl) rfl (by show 2 * 0 + _ ≤ _; exact Nat.le_of_eq rfl) (hb hby at_130) (fun _ _ => ⟨rfl, e34, (by decide : 6 + 0 ≤ _), (by decide : 42 + 0 ≤ _)⟩)
    dsimp only [Pt.U, Pt.locs, Pt.cells, Pt.slots] at X35 l35 y35 z35 st35 hQ35
    subst l35 y35 z35
    obtain ⟨rfl, N35q, e35⟩ := hQ35
    have N35 := Fr.app N34 N35q
    replace e35 := e35
    refine Goes.tr (U' := T35.setTop (mkF m 133 #[.val (.int p1), .val (.int p2), .val (.int p3), .val (.int p4), .val (.int p5), .val (.int p6), .val (.int (p1 &&& (7 : Int32))), .val (.int (4 : Int32)), .val (.ref b26)] [(.int p5)])) st35 ?_
    refine Goes.st (U' := T35.setTop (mkF m 135 #[.val (.int p1), .val (.int p2), .val (.int p3), .val (.int p4), .val (.int p5), .val (.int p6), .val (.int (p1 &&& (7 : Int32))), .val (.int (4 : Int32)), .val (.ref b26)] [(.int p5), (.int p5)])) (fun t k => XS.iload X35.here hx rfl (hb hby at_133) rfl k) ?_
    refine Goes.st (U' := T35.setTop (mkF m 140 #[.val (.int p1), .val (.int p2), .val (.int p3), .val (.int p4), .val (.int p5), .val (.int p6), .val (.int (p1 &&& (7 : Int32))), .val (.int (4 : Int32)), .val (.ref b26)] [])) (fun t k => XS.icmpYes X35.here hx rfl (pc0 := 135) (pc' := 140) rfl (hb hby at_135) rfl (teq (rfl : p5 = p5)).1 (by decide) (by decide) k) ?_
    refine Goes.st (U' := T35.setTop (mkF m 142 #[.val (.int p1), .val (.int p2), .val (.int p3), .val (.int p4), .val (.int p5), .val (.int p6), .val (.int (p1 &&& (7 : Int32))), .val (.int (4 : Int32)), .val (.ref b26)] [(.int (4 : Int32))])) (fun t k => XS.iload X35.here hx rfl (hb hby at_140) rfl k) ?_
    refine Goes.st (U' := T35.setTop (mkF m 143 #[.val (.int p1), .val (.int p2), .val (.int p3), .val (.int p4), .val (.int p5), .val (.int p6), .val (.int (p1 &&& (7 : Int32))), .val (.int (4 : Int32)), .val (.ref b26)] [(.int (3 : Int32)), (.int (4 : Int32))])) (fun t k => XS.iconst X35.here hx rfl (hb hby at_142) k) ?_
    refine Goes.st (U' := T35.setTop (mkF m 146 #[.val (.int p1), .val (.int p2), .val (.int p3), .val (.int p4), .val (.int p5), .val (.int p6), .val (.int (p1 &&& (7 : Int32))), .val (.int (4 : Int32)), .val (.ref b26)] [])) (fun t k => XS.icmpNo X35.here hx rfl (hb hby at_143) rfl (tlt (by decide : (3 : Int32) < (4 : Int32))).2.2.2 k) ?_
    refine Goes.st (U' := T35.setTop (mkF m 148 #[.val (.int p1), .val (.int p2), .val (.int p3), .val (.int p4), .val (.int p5), .val (.int p6), .val (.int (p1 &&& (7 : Int32))), .val (.int (4 : Int32)), .val (.ref b26)] [(.ref b26)])) (fun t k => XS.aload X35.here hx rfl (hb hby at_146) rfl rfl k) ?_
    refine Goes.st (U' := T35.setTop (mkF m 149 #[.val (.int p1), .val (.int p2), .val (.int p3), .val (.int p4), .val (.int p5), .val (.int p6), .val (.int (p1 &&& (7 : Int32))), .val (.int (4 : Int32)), .val (.ref b26)] [(.int (3 : Int32)), (.ref b26)])) (fun t k => XS.iconst X35.here hx rfl (hb hby at_148) k) ?_
    obtain ⟨cq36, kq36, q36a, q36b, q36c⟩ := isOf hZ e35 I31.1
    obtain ⟨_, _, ⟨T36, L36, k36, n36⟩, -, X36, ⟨Lc36, hQ36, l36, y36, z36⟩, st36⟩ := X35.virtualBack hx (y := (⟨"com/example/cosine/cosine/index/IntList", "get", "(I)I"⟩ : MethodName)) (z := (⟨"com/example/cosine/cosine/index/IntList", "get", "(I)I"⟩ : MethodName)) hown (mvT hZ (hw _ (List.mem_of_getElem? (i := 46) rfl))) (mvT hZ (hw _ (List.mem_of_getElem? (i := 47) rfl))) (notFace_of_selects (args := #[]) (mvT hZ (hw _ (List.mem_of_getElem? (i := 49) rfl)))) (mvT hZ (hw _ (List.mem_of_getElem? (i := 49) rfl))) (mvT hZ (hw _ (List.mem_of_getElem? (i := 48) rfl))) (by decide) (backOf (W := 0) (rm9 l Z a0 hw [] b26 (3 : Int32) ar31 ka31 za31 [p3, p4, p5, p6] p6 T31.heap n0 (Nat.le_trans (Nat.le_trans (Nat.le_trans (Nat.le_trans (Nat.le_trans (Nat.le_trans Z0 E26.1) K27.1) K28.1) K29.1) K30.1) K31.1) I31 (by decide) (Nat.le_of_ble_eq_true rfl) rfl) hZ (hw _ (List.mem_of_getElem? (i := 50) rfl)) (hw _ (List.mem_of_getElem? (i := 3) rfl)) (by decide) (by decide)) q36a q36c (g := (mkF m 149 #[.val (.int p1), .val (.int p2), .val (.int p3), .val (.int p4), .val (.int p5), .val (.int p6), .val (.int (p1 &&& (7 : Int32))), .val (.int (4 : Int32)), .val (.ref b26)] [(.int (3 : Int32)), (.ref b26)])) rfl (by rw [hml]; rfl) (Steps.refl _) (argsL := [(.int (3 : Int32))]) (rest := []) (lenOf pd_5 rfl) rfl (by show 2 * 0 + _ ≤ _; exact Nat.le_of_eq rfl) (hb hby at_149) (fun _ _ => ⟨rfl, e35, (by decide : 6 + 0 ≤ _), (by decide : 42 + 0 ≤ _)⟩)
    dsimp only [Pt.U, Pt.locs, Pt.cells, Pt.slots] at X36 l36 y36 z36 st36 hQ36
    subst l36 y36 z36
    obtain ⟨rfl, N36q, e36⟩ := hQ36
    have N36 := Fr.app N35 N36q
    replace e36 := e36
    refine Goes.tr (U' := T36.setTop (mkF m 152 #[.val (.int p1), .val (.int p2), .val (.int p3), .val (.int p4), .val (.int p5), .val (.int p6), .val (.int (p1 &&& (7 : Int32))), .val (.int (4 : Int32)), .val (.ref b26)] [(.int p6)])) st36 ?_
    refine Goes.st (U' := T36.setTop (mkF m 154 #[.val (.int p1), .val (.int p2), .val (.int p3), .val (.int p4), .val (.int p5), .val (.int p6), .val (.int (p1 &&& (7 : Int32))), .val (.int (4 : Int32)), .val (.ref b26)] [(.int p6), (.int p6)])) (fun t k => XS.iload X36.here hx rfl (hb hby at_152) rfl k) ?_
    refine Goes.st (U' := T36.setTop (mkF m 159 #[.val (.int p1), .val (.int p2), .val (.int p3), .val (.int p4), .val (.int p5), .val (.int p6), .val (.int (p1 &&& (7 : Int32))), .val (.int (4 : Int32)), .val (.ref b26)] [])) (fun t k => XS.icmpYes X36.here hx rfl (pc0 := 154) (pc' := 159) rfl (hb hby at_154) rfl (teq (rfl : p6 = p6)).1 (by decide) (by decide) k) ?_
    refine Goes.st (U' := T36.setTop (mkF m 160 #[.val (.int p1), .val (.int p2), .val (.int p3), .val (.int p4), .val (.int p5), .val (.int p6), .val (.int (p1 &&& (7 : Int32))), .val (.int (4 : Int32)), .val (.ref b26)] [(.int (1 : Int32))])) (fun t k => XS.iconst X36.here hx rfl (hb hby at_159) k) ?_
    refine Goes.retZ X36 hx (BodyLoose.notSynchronized Bd) Bd.returns (hb hby at_160) rfl (by decide) (by decide) ?_
    show Q0 Z p1 p2 p3 p4 p5 p6 h0 n0 _ T36.heap _
    rw [e36]
    exact ⟨rfl, N36⟩
set_option maxRecDepth 65536 in
set_option maxHeartbeats 40000000 in
theorem comes_1 {Post : Tables → Env → Array Value → State → Outcome → State → Prop} (hpost : ∀ tb e args s v u, (limb_1_1.after args s (.returned v) u = true ∧ limb_1_2.after args s (.returned v) u = true ∧ True) → FrameEnd s (.returned v) u (Jvm.fieldLocs frame_1_writes args s ++ Jvm.arrayLocs frame_1_arrays args s ++ Jvm.staticLocs frame_1_statics s) 16 128 → Post tb e args s (.returned v) u) :
    ArmFor flags0 classFile x code maxLocals ret World_1 tables_1 room_1 Calls_1 rest_1 Pre_1 Post := by
  intro l hfl _ _ p e ha hc hk s m args below hf hA hF happ hP
  obtain ⟨hcalls, hrest, hpre⟩ := hP
  obtain ⟨-, -, -, hnamed, -, -, -, hat⟩ := (Spec.applies_iff hf).mp happ
  obtain ⟨hg, hn⟩ := and_e (Cond.before_iff.mp (show (Jvm.Cond.and given_1 narrow_1).before args s = true from hpre))
  obtain ⟨gg1, gg2⟩ := and_e hg
  obtain ⟨gg3, gg4⟩ := and_e gg2
  obtain ⟨gg5, gg6⟩ := and_e gg4
  obtain ⟨gg7, gg8⟩ := and_e gg6
  obtain ⟨gg9, gg10⟩ := and_e gg8
  obtain ⟨gg11, gg12⟩ := and_e gg10
  obtain ⟨w0, w1, w2, w3, w4, w5, rfl⟩ : ∃ w0 w1 w2 w3 w4 w5 : Value, args = #[w0, w1, w2, w3, w4, w5] := by
    have hs : args.size = 6 := by simpa [Cond.value, given_1] using gg1
    obtain ⟨L⟩ := args
    match L, hs with
    | [w0, w1, w2, w3, w4, w5], _ => exact ⟨w0, w1, w2, w3, w4, w5, rfl⟩
  have hw := fun d (hd : d ∈ tables_1) => atoms_spec (ws := Jvm.Cond.code x code maxLocals ret :: tables_1) hat d (List.mem_cons_of_mem _ hd)
  obtain ⟨i0, ei0⟩ := is_v gg3
  obtain rfl : w0 = (.int i0) := Option.some.inj ei0
  obtain ⟨i1, ei1⟩ := is_v gg5
  obtain rfl : w1 = (.int i1) := Option.some.inj ei1
  obtain ⟨i2, ei2⟩ := is_v gg7
  obtain rfl : w2 = (.int i2) := Option.some.inj ei2
  obtain ⟨i3, ei3⟩ := is_v gg9
  obtain rfl : w3 = (.int i3) := Option.some.inj ei3
  obtain ⟨i4, ei4⟩ := is_v gg11
  obtain rfl : w4 = (.int i4) := Option.some.inj ei4
  obtain ⟨i5, ei5⟩ := is_v gg12
  obtain rfl : w5 = (.int i5) := Option.some.inj ei5
  obtain ⟨n, o, h1, h2, h3, v, L, rfl, hQ, hq⟩ := rm0 l s _ hw tables_1 i0 i1 i2 i3 i4 i5 s.heap s.heap.size (Nat.le_refl _) p e ha hc hk s m _ below hf ((Spec.applies_iff_loose hf).mp happ).1 ⟨rfl, State.Warmed39.refl s, rfl⟩ trivial
  obtain ⟨rfl, N⟩ := hQ
  exact ⟨n, _, h1, h2, h3, hpost _ _ _ _ _ _ ⟨Cond.after_iff.mpr rfl, Cond.after_iff.mpr (eq_i res_at (Term.int_eval (1)) rfl), trivial⟩ ⟨hq.1, hq.2.1, (hq.2.2.sift fun y hy => Or.inr (N y hy)).mono (by decide) (by decide)⟩⟩
theorem main_1_1 : Claimed_1_1 := comes_1 fun _ _ _ _ _ _ h hF => ⟨h.1, hF⟩
theorem main_1_2 : Claimed_1_2 := comes_1 fun _ _ _ _ _ _ h hF => ⟨h.2.1, hF⟩
end Jvm.Pilot.@@N@@
namespace Jvm.Pilot.@@N@@
open Jvm Jvm.ClassFile Sem Op Lib Jvm.Free Jvm.Stand Jvm.Pilot.@@N@@.Jvm.D
/-! MADE BY PROGRAM (witnessworld.py) out of the Statement's table words and the real class files: 12 classes; the members and pool entries that the words name. The judged class is class 1, her method 1. -/
namespace start1
open Jvm.ClassFile
def u (s : String) : CpInfo := .utf8 (stringToUtf16 s)
/-- a pool by its gaps: so many unusable entries, then the entry; so many at the end -/
def gap : Nat → List CpInfo → List CpInfo
  | 0, r => r
  | n + 1, r => .unusable :: gap n r
def poolList (es : List (Nat × CpInfo)) (last : Nat) : List CpInfo := es.foldr (fun e r => gap e.1 (e.2 :: r)) (gap last [])
def pool (es : List (Nat × CpInfo)) (last : Nat) : Array CpInfo := ⟨poolList es last⟩
def fileOf (pool : Array CpInfo) (this : Nat) (attrs : Array Attribute := #[]) (ms : Array MethodInfo := #[]) (fl : Nat := 33) (sup : Nat := 0) (ifs : Array Nat := #[]) (fds : Array FieldInfo := #[]) : ClassFile where
  minorVersion := 0
  majorVersion := 65
  constantPool := pool
  accessFlags := fl
  thisClass := this
  superClass := sup
  interfaces := ifs
  fields := fds
  methods := ms
  attributes := attrs
def plain (name : String) (sup : Option ClassId) : Class where
  name := name
  kind := .ordinary
  loader := none
  accessFlags := 33
  super := sup
  interfaces := #[]
  cf := none
  fields := #[]
  methods := #[]
  instanceTypes := #[]
  staticTypes := #[]
  resolved := #[]
  callSites := []
  init := .initialized
  statics := none
  mirror := none

def pool0 : Array CpInfo := pool [(5, u "<init>"), (0, u "()V"), (1, .class_ 10), (1, u "java/lang/Object")] 113

def k0c0 : Code := { maxStack := 0, maxLocals := 1, code := object_method_1_code, exceptionTable := #[], attributes := #[] }
def k0m0 : Method := { name := "<init>", desc := "()V", sig := { parameters := [], returnType := none }, accessFlags := 1, code := some k0c0 }
/-- java/lang/Object -/
def k0 : Class := { plain "java/lang/Object" none with
  accessFlags := 33
  interfaces := #[]
  cf := some (fileOf pool0 8 #[] #[{ accessFlags := 1, nameIndex := 5, descriptorIndex := 6, attributes := #[] }] 33 0 #[] #[])
  fields := #[]
  methods := #[k0m0]
  instanceTypes := #[]
  staticTypes := #[]
  resolved := Array.replicate 124 none
  statics := none }

def pool1 : Array CpInfo := pool [(2, .class_ 4), (1, u "java/lang/Object"), (0, u "<init>"), (0, u "()V"), (0, .integer 2147483647), (0, .class_ 9), (0, u "com/example/cosine/cosine/index/IntList"), (0, .methodref 8 11), (0, .nameAndType 5 12), (0, u "(I)V"), (0, .methodref 8 14), (0, .nameAndType 15 12), (0, u "add"), (0, .methodref 8 17), (0, .nameAndType 18 19), (0, u "size"), (0, u "()I"), (0, .methodref 8 21), (0, .nameAndType 22 23), (0, u "get"), (0, u "(I)I"), (0, .class_ 25), (0, u "com/example/cosine/cosine/index/IntListAddPinLaw"), (2, u "law"), (0, u "(IIIIII)Z")] 3

def k1m0 : Method := { name := "<init>", desc := "()V", sig := { parameters := [], returnType := none }, accessFlags := 1, code := none }
def k1c1 : Code := { maxStack := 3, maxLocals := 9, code := code, exceptionTable := #[], attributes := #[] }
def k1m1 : Method := { name := "law", desc := "(IIIIII)Z", sig := { parameters := [.int, .int, .int, .int, .int, .int], returnType := some .boolean }, accessFlags := 9, code := some k1c1 }
/-- com/example/cosine/cosine/index/IntListAddPinLaw -/
def k1 : Class := { plain "com/example/cosine/cosine/index/IntListAddPinLaw" (some 0) with
  accessFlags := 49
  interfaces := #[]
  cf := some (fileOf pool1 24 #[] #[{ accessFlags := 1, nameIndex := 5, descriptorIndex := 6, attributes := #[] }, { accessFlags := 9, nameIndex := 28, descriptorIndex := 29, attributes := #[] }] 49 2 #[] #[])
  fields := #[]
  methods := #[k1m0, k1m1]
  instanceTypes := #[]
  staticTypes := #[]
  resolved := Array.replicate 33 none
  statics := none }

def pool2 : Array CpInfo := pool [(3, .methodref 4 5), (0, .class_ 6), (0, .nameAndType 7 8), (0, u "java/lang/Object"), (0, u "<init>"), (0, u "()V"), (0, .fieldref 10 11), (0, .class_ 12), (0, .nameAndType 13 14), (0, u "com/example/cosine/cosine/index/IntList"), (0, u "values"), (0, u "[I"), (0, .fieldref 10 16), (0, .nameAndType 17 18), (0, u "size"), (0, u "I"), (0, .long 4), (1, .long 2), (1, .methodref 24 25), (0, .class_ 26), (0, .nameAndType 27 28), (0, u "java/lang/Math"), (0, u "max"), (0, u "(JJ)J"), (0, .long 2147483639), (1, .methodref 24 32), (0, .nameAndType 33 28), (0, u "min"), (0, .methodref 35 36), (0, .class_ 37), (0, .nameAndType 38 39), (0, u "java/util/Arrays"), (0, u "copyOf"), (0, u "([II)[I"), (2, u "(I)V"), (0, u "MAX_CAPACITY"), (4, u "add"), (3, u "get"), (0, u "(I)I"), (0, u "()I")] 2

def k2c0 : Code := { maxStack := 2, maxLocals := 2, code := prog_18_method_1_code, exceptionTable := #[], attributes := #[] }
def k2m0 : Method := { name := "<init>", desc := "(I)V", sig := { parameters := [.int], returnType := none }, accessFlags := 0, code := some k2c0 }
def k2c1 : Code := { maxStack := 6, maxLocals := 4, code := prog_18_method_2_code, exceptionTable := #[], attributes := #[] }
def k2m1 : Method := { name := "add", desc := "(I)V", sig := { parameters := [.int], returnType := none }, accessFlags := 0, code := some k2c1 }
def k2c2 : Code := { maxStack := 2, maxLocals := 2, code := prog_18_method_4_code, exceptionTable := #[], attributes := #[] }
def k2m2 : Method := { name := "get", desc := "(I)I", sig := { parameters := [.int], returnType := some .int }, accessFlags := 0, code := some k2c2 }
def k2c3 : Code := { maxStack := 1, maxLocals := 1, code := prog_18_method_5_code, exceptionTable := #[], attributes := #[] }
def k2m3 : Method := { name := "size", desc := "()I", sig := { parameters := [], returnType := some .int }, accessFlags := 0, code := some k2c3 }
/-- com/example/cosine/cosine/index/IntList -/
def k2 : Class := { plain "com/example/cosine/cosine/index/IntList" (some 0) with
  accessFlags := 48
  interfaces := #[]
  cf := some (fileOf pool2 10 #[] #[{ accessFlags := 0, nameIndex := 7, descriptorIndex := 42, attributes := #[] }, { accessFlags := 0, nameIndex := 48, descriptorIndex := 42, attributes := #[] }, { accessFlags := 0, nameIndex := 52, descriptorIndex := 53, attributes := #[] }, { accessFlags := 0, nameIndex := 17, descriptorIndex := 54, attributes := #[] }] 48 4 #[] #[{ accessFlags := 26, nameIndex := 43, descriptorIndex := 18, attributes := #[] }, { accessFlags := 2, nameIndex := 13, descriptorIndex := 14, attributes := #[] }, { accessFlags := 2, nameIndex := 17, descriptorIndex := 18, attributes := #[] }])
  fields := #[{ name := "MAX_CAPACITY", type := .int, accessFlags := 26, slot := 0, constantValue := 0 }, { name := "values", type := (.array .int), accessFlags := 2, slot := 0, constantValue := 0 }, { name := "size", type := .int, accessFlags := 2, slot := 1, constantValue := 0 }]
  methods := #[k2m0, k2m1, k2m2, k2m3]
  instanceTypes := #[(.array .int), .int]
  staticTypes := #[.int]
  resolved := Array.replicate 57 none
  statics := none }

def pool3 : Array CpInfo := pool [(1, .class_ 2), (0, u "java/lang/Math"), (1, .class_ 6), (1, u "java/lang/Object"), (0, u "<init>"), (0, u "()V"), (89, .class_ 100), (1, u "java/lang/Math$RandomNumberGeneratorHolder"), (20, u "(JJ)J"), (50, u "negativeZeroFloatBits"), (0, u "J"), (2, u "negativeZeroDoubleBits"), (21, u "max"), (2, u "min"), (43, u "$assertionsDisabled"), (0, u "Z"), (88, u "(II)I"), (2, u "twoToTheDoubleScaleDown"), (0, u "D"), (4, u "twoToTheDoubleScaleUp"), (9, u "E"), (3, u "PI"), (2, u "TAU"), (2, u "DEGREES_TO_RADIANS"), (0, u "RADIANS_TO_DEGREES")] 94

def k3m0 : Method := { name := "<init>", desc := "()V", sig := { parameters := [], returnType := none }, accessFlags := 2, code := none }
def k3c1 : Code := { maxStack := 4, maxLocals := 4, code := jdk_29_method_66_code, exceptionTable := #[], attributes := #[] }
def k3m1 : Method := { name := "max", desc := "(JJ)J", sig := { parameters := [.long, .long], returnType := some .long }, accessFlags := 9, code := some k3c1 }
def k3c2 : Code := { maxStack := 2, maxLocals := 2, code := jdk_29_method_69_code, exceptionTable := #[], attributes := #[] }
def k3m2 : Method := { name := "min", desc := "(II)I", sig := { parameters := [.int, .int], returnType := some .int }, accessFlags := 9, code := some k3c2 }
def k3c3 : Code := { maxStack := 4, maxLocals := 4, code := jdk_29_method_70_code, exceptionTable := #[], attributes := #[] }
def k3m3 : Method := { name := "min", desc := "(JJ)J", sig := { parameters := [.long, .long], returnType := some .long }, accessFlags := 9, code := some k3c3 }
/-- java/lang/Math -/
def k3 : Class := { plain "java/lang/Math" (some 0) with
  accessFlags := 49
  interfaces := #[]
  cf := some (fileOf pool3 1 #[.nestMembers #[98]] #[{ accessFlags := 2, nameIndex := 7, descriptorIndex := 8, attributes := #[] }, { accessFlags := 9, nameIndex := 198, descriptorIndex := 121, attributes := #[] }, { accessFlags := 9, nameIndex := 201, descriptorIndex := 335, attributes := #[] }, { accessFlags := 9, nameIndex := 201, descriptorIndex := 121, attributes := #[] }] 49 4 #[] #[{ accessFlags := 25, nameIndex := 354, descriptorIndex := 339, attributes := #[] }, { accessFlags := 25, nameIndex := 358, descriptorIndex := 339, attributes := #[] }, { accessFlags := 25, nameIndex := 361, descriptorIndex := 339, attributes := #[] }, { accessFlags := 26, nameIndex := 364, descriptorIndex := 339, attributes := #[] }, { accessFlags := 26, nameIndex := 365, descriptorIndex := 339, attributes := #[] }, { accessFlags := 26, nameIndex := 172, descriptorIndex := 173, attributes := #[] }, { accessFlags := 26, nameIndex := 176, descriptorIndex := 173, attributes := #[] }, { accessFlags := 8, nameIndex := 344, descriptorIndex := 339, attributes := #[] }, { accessFlags := 8, nameIndex := 338, descriptorIndex := 339, attributes := #[] }, { accessFlags := 4120, nameIndex := 245, descriptorIndex := 246, attributes := #[] }])
  fields := #[{ name := "E", type := .double, accessFlags := 25, slot := 0, constantValue := 0 }, { name := "PI", type := .double, accessFlags := 25, slot := 1, constantValue := 0 }, { name := "TAU", type := .double, accessFlags := 25, slot := 2, constantValue := 0 }, { name := "DEGREES_TO_RADIANS", type := .double, accessFlags := 26, slot := 3, constantValue := 0 }, { name := "RADIANS_TO_DEGREES", type := .double, accessFlags := 26, slot := 4, constantValue := 0 }, { name := "negativeZeroFloatBits", type := .long, accessFlags := 26, slot := 5, constantValue := 0 }, { name := "negativeZeroDoubleBits", type := .long, accessFlags := 26, slot := 6, constantValue := 0 }, { name := "twoToTheDoubleScaleUp", type := .double, accessFlags := 8, slot := 7, constantValue := 0 }, { name := "twoToTheDoubleScaleDown", type := .double, accessFlags := 8, slot := 8, constantValue := 0 }, { name := "$assertionsDisabled", type := .boolean, accessFlags := 4120, slot := 9, constantValue := 0 }]
  methods := #[k3m0, k3m1, k3m2, k3m3]
  instanceTypes := #[]
  staticTypes := #[.double, .double, .double, .double, .double, .long, .long, .double, .double, .boolean]
  resolved := Array.replicate 460 none
  statics := none }

def pool4 : Array CpInfo := pool [(2, .class_ 4), (1, u "java/lang/Object"), (0, u "<init>"), (0, u "()V"), (7, .class_ 16), (1, u "java/util/Arrays"), (57, .class_ 76), (1, u "java/util/Arrays$NaturalOrder"), (36, .class_ 115), (1, u "java/util/Arrays$LegacyMergeSort"), (1, u "Z"), (32, .methodref 151 152), (0, .class_ 153), (0, .nameAndType 154 155), (0, u "java/lang/System"), (0, u "arraycopy"), (0, u "(Ljava/lang/Object;ILjava/lang/Object;II)V"), (146, u "copyOf"), (1, .methodref 305 306), (0, .class_ 307), (0, .nameAndType 308 309), (0, u "java/lang/Math"), (0, u "min"), (0, u "(II)I"), (65, .class_ 376), (0, u "java/util/Arrays$ArrayList"), (68, u "$assertionsDisabled"), (269, u "MIN_ARRAY_SORT_GRAN"), (0, u "I"), (2, u "INSERTIONSORT_THRESHOLD"), (151, u "([II)[I"), (103, .class_ 976), (0, u "java/util/Arrays$ArrayItr")] 52

def k4m0 : Method := { name := "<init>", desc := "()V", sig := { parameters := [], returnType := none }, accessFlags := 2, code := none }
def k4c1 : Code := { maxStack := 6, maxLocals := 3, code := jdk_65_method_123_code, exceptionTable := #[], attributes := #[] }
def k4m1 : Method := { name := "copyOf", desc := "([II)[I", sig := { parameters := [(.array .int), .int], returnType := some (.array .int) }, accessFlags := 9, code := some k4c1 }
/-- java/util/Arrays -/
def k4 : Class := { plain "java/util/Arrays" (some 0) with
  accessFlags := 49
  interfaces := #[]
  cf := some (fileOf pool4 14 #[.nestMembers #[975, 375, 113, 74]] #[{ accessFlags := 2, nameIndex := 5, descriptorIndex := 6, attributes := #[] }, { accessFlags := 9, nameIndex := 302, descriptorIndex := 871, attributes := #[] }] 49 2 #[] #[{ accessFlags := 26, nameIndex := 715, descriptorIndex := 716, attributes := #[] }, { accessFlags := 26, nameIndex := 719, descriptorIndex := 716, attributes := #[] }, { accessFlags := 4120, nameIndex := 445, descriptorIndex := 117, attributes := #[] }])
  fields := #[{ name := "MIN_ARRAY_SORT_GRAN", type := .int, accessFlags := 26, slot := 0, constantValue := 0 }, { name := "INSERTIONSORT_THRESHOLD", type := .int, accessFlags := 26, slot := 1, constantValue := 0 }, { name := "$assertionsDisabled", type := .boolean, accessFlags := 4120, slot := 2, constantValue := 0 }]
  methods := #[k4m0, k4m1]
  instanceTypes := #[]
  staticTypes := #[.int, .int, .boolean]
  resolved := Array.replicate 1029 none
  statics := none }

def pool5 : Array CpInfo := pool [(2, .class_ 4), (1, u "java/lang/Object"), (0, u "<init>"), (0, u "()V"), (1, .class_ 10), (1, u "java/lang/System"), (0, u "allowSecurityManager"), (0, u "I"), (16, u "cons"), (0, u "Ljava/io/Console;"), (77, .class_ 110), (1, u "java/lang/System$CallersHolder"), (43, u "initialErrStream"), (0, u "Ljava/io/PrintStream;"), (19, u "security"), (0, u "Ljava/lang/SecurityManager;"), (31, .class_ 209), (0, u "java/lang/System$1"), (7, u "props"), (0, u "Ljava/util/Properties;"), (2, u "lineSeparator"), (0, u "Ljava/lang/String;"), (96, .class_ 321), (1, u "java/lang/System$LoggerFinder"), (5, .class_ 328), (0, u "java/lang/System$Logger"), (67, u "err"), (2, u "out"), (91, u "notSupportedJnuEncoding"), (15, u "in"), (17, u "initialIn"), (0, u "Ljava/io/InputStream;"), (35, u "bootLayer"), (0, u "Ljava/lang/ModuleLayer;"), (99, .class_ 664), (0, u "java/lang/System$2"), (9, u "NEVER"), (2, u "MAYBE"), (49, u "arraycopy"), (0, u "(Ljava/lang/Object;ILjava/lang/Object;II)V"), (72, .class_ 802), (0, u "java/lang/System$Logger$Level")] 31

def k5m0 : Method := { name := "<init>", desc := "()V", sig := { parameters := [], returnType := none }, accessFlags := 2, code := none }
def k5m1 : Method := { name := "arraycopy", desc := "(Ljava/lang/Object;ILjava/lang/Object;II)V", sig := { parameters := [(.object "java/lang/Object"), .int, (.object "java/lang/Object"), .int, .int], returnType := none }, accessFlags := 265, code := none }
/-- java/lang/System -/
def k5 : Class := { plain "java/lang/System" (some 0) with
  accessFlags := 49
  interfaces := #[]
  cf := some (fileOf pool5 8 #[.nestMembers #[319, 327, 801, 108, 663, 208]] #[{ accessFlags := 2, nameIndex := 5, descriptorIndex := 6, attributes := #[] }, { accessFlags := 265, nameIndex := 727, descriptorIndex := 728, attributes := #[] }] 49 2 #[] #[{ accessFlags := 25, nameIndex := 507, descriptorIndex := 526, attributes := #[] }, { accessFlags := 25, nameIndex := 399, descriptorIndex := 155, attributes := #[] }, { accessFlags := 25, nameIndex := 396, descriptorIndex := 155, attributes := #[] }, { accessFlags := 10, nameIndex := 525, descriptorIndex := 526, attributes := #[] }, { accessFlags := 26, nameIndex := 674, descriptorIndex := 12, attributes := #[] }, { accessFlags := 26, nameIndex := 677, descriptorIndex := 12, attributes := #[] }, { accessFlags := 10, nameIndex := 11, descriptorIndex := 12, attributes := #[] }, { accessFlags := 74, nameIndex := 175, descriptorIndex := 176, attributes := #[] }, { accessFlags := 10, nameIndex := 491, descriptorIndex := 222, attributes := #[] }, { accessFlags := 74, nameIndex := 29, descriptorIndex := 30, attributes := #[] }, { accessFlags := 74, nameIndex := 154, descriptorIndex := 155, attributes := #[] }, { accessFlags := 10, nameIndex := 217, descriptorIndex := 218, attributes := #[] }, { accessFlags := 10, nameIndex := 221, descriptorIndex := 222, attributes := #[] }, { accessFlags := 8, nameIndex := 562, descriptorIndex := 563, attributes := #[] }])
  fields := #[{ name := "in", type := (.object "java/io/InputStream"), accessFlags := 25, slot := 0, constantValue := 0 }, { name := "out", type := (.object "java/io/PrintStream"), accessFlags := 25, slot := 1, constantValue := 0 }, { name := "err", type := (.object "java/io/PrintStream"), accessFlags := 25, slot := 2, constantValue := 0 }, { name := "initialIn", type := (.object "java/io/InputStream"), accessFlags := 10, slot := 3, constantValue := 0 }, { name := "NEVER", type := .int, accessFlags := 26, slot := 4, constantValue := 0 }, { name := "MAYBE", type := .int, accessFlags := 26, slot := 5, constantValue := 0 }, { name := "allowSecurityManager", type := .int, accessFlags := 10, slot := 6, constantValue := 0 }, { name := "security", type := (.object "java/lang/SecurityManager"), accessFlags := 74, slot := 7, constantValue := 0 }, { name := "notSupportedJnuEncoding", type := (.object "java/lang/String"), accessFlags := 10, slot := 8, constantValue := 0 }, { name := "cons", type := (.object "java/io/Console"), accessFlags := 74, slot := 9, constantValue := 0 }, { name := "initialErrStream", type := (.object "java/io/PrintStream"), accessFlags := 74, slot := 10, constantValue := 0 }, { name := "props", type := (.object "java/util/Properties"), accessFlags := 10, slot := 11, constantValue := 0 }, { name := "lineSeparator", type := (.object "java/lang/String"), accessFlags := 10, slot := 12, constantValue := 0 }, { name := "bootLayer", type := (.object "java/lang/ModuleLayer"), accessFlags := 8, slot := 13, constantValue := 0 }]
  methods := #[k5m0, k5m1]
  instanceTypes := #[]
  staticTypes := #[(.object "java/io/InputStream"), (.object "java/io/PrintStream"), (.object "java/io/PrintStream"), (.object "java/io/InputStream"), .int, .int, .int, (.object "java/lang/SecurityManager"), (.object "java/lang/String"), (.object "java/io/Console"), (.object "java/io/PrintStream"), (.object "java/util/Properties"), (.object "java/lang/String"), (.object "java/lang/ModuleLayer")]
  resolved := Array.replicate 834 none
  statics := none }

def pool6 : Array CpInfo := pool [(1, u "java/lang/Cloneable"), (0, .class_ 1), (0, u "java/lang/Object"), (0, .class_ 3)] 3

/-- java/lang/Cloneable -/
def k6 : Class := { plain "java/lang/Cloneable" (some 0) with
  accessFlags := 1537
  interfaces := #[]
  cf := some (fileOf pool6 2 #[] #[] 1537 4 #[] #[])
  fields := #[]
  methods := #[]
  instanceTypes := #[]
  staticTypes := #[]
  resolved := Array.replicate 8 none
  statics := none }

def pool7 : Array CpInfo := pool [(1, u "java/io/Serializable"), (0, .class_ 1), (0, u "java/lang/Object"), (0, .class_ 3)] 3

/-- java/io/Serializable -/
def k7 : Class := { plain "java/io/Serializable" (some 0) with
  accessFlags := 1537
  interfaces := #[]
  cf := some (fileOf pool7 2 #[] #[] 1537 4 #[] #[])
  fields := #[]
  methods := #[]
  instanceTypes := #[]
  staticTypes := #[]
  resolved := Array.replicate 8 none
  statics := none }

/-- the primitive byte -/
def k8 : Class := { plain "byte" none with kind := .primitive 'B', accessFlags := 0x411 }
/-- [B -/
def k9 : Class := { plain "[B" (some 0) with kind := .array 8 .byte, interfaces := #[6, 7], accessFlags := 1041 }

/-- the primitive int -/
def k10 : Class := { plain "int" none with kind := .primitive 'I', accessFlags := 0x411 }
/-- [I -/
def k11 : Class := { plain "[I" (some 0) with kind := .array 10 .int, interfaces := #[6, 7], accessFlags := 1041 }

def heap : Heap := #[]
def classes : Array Class := #[k0, k1, k2, k3, k4, k5, k6, k7, k8, k9, k10, k11]
def interned : List (Array UInt16 × Addr) := []
def slotsUsed : Nat := 0
def theMethod : MethodId := ⟨1, 1⟩
def args0 : Array Value := #[.int 1, .int 2, .int 3, .int 4, .int 5, .int 6]
def aboutOver (below : List Frame) : State where
  vm := { classes := classes, interned := interned.toArray }
  heap := heap
  slotsUsed := slotsUsed
  threads := #[{ frames := .invoking theMethod args0 :: below }]
def below0 : List Frame := [.native { method := ⟨0, 0⟩, args := #[] }]
def about1 : State := aboutOver below0
def p0 : Program := .bare "" "" ""
def e0 : Env := launch0.env 0 0 0
theorem w_frames : about1.frames = Frame.invoking theMethod args0 :: below0 := rfl
set_option maxRecDepth 65536 in
theorem w_args : argsFit about1.vm theMethod args0 = true := by decide +kernel
set_option maxRecDepth 65536 in
theorem w_heap : heapFits about1 = true := by decide +kernel
set_option maxRecDepth 65536 in
theorem w_runnable : about1.curStatus? = some .runnable := by decide +kernel
set_option maxRecDepth 65536 in
theorem w_alone : about1.alone = true := by decide +kernel
set_option maxRecDepth 65536 in
theorem w_named : about1.methodNamed? x = some theMethod := by decide +kernel
set_option maxRecDepth 65536 in
theorem w_hears : about1.hears theMethod below0 = true := by decide +kernel
set_option maxRecDepth 65536 in
theorem w_ripe : about1.ripe theMethod args0 below0 = true := by decide +kernel
theorem w_running : about1.status = .running := rfl
set_option maxRecDepth 65536 in
theorem w_room : about1.hasRoom e0.platform room_1 = true :=
  launch0.hasRoom_least _ room_1 (by decide +kernel) (by decide +kernel) (by decide +kernel) (by decide +kernel) (by decide +kernel) (by decide +kernel)
theorem allAtoms_all (ts : List Jvm.Cond) (a : Array Jvm.Value) (st : Jvm.State) : (allAtoms ts).before a st = ts.all (fun c => c.before a st) := by
  induction ts with
  | nil => rfl
  | cons c t ih =>
    show (Jvm.Cond.and c (allAtoms t)).before a st = _
    rw [Jvm.Cond.before_and, ih, List.all_cons]
def words1 : List Jvm.Cond := Jvm.Cond.code x code maxLocals ret :: tables_1
/-- a 'code' word, met by the world's own term for the bytes: nothing is compared byte by byte -/
theorem code_word {y : MethodName} {bytes : ByteArray} {mx : Nat} {rt : Option FieldType} {a : Array Value} {s : State} {m : MethodId} {meth : Method} {c : Code} (h1 : s.methodNamed? y = some m) (h2 : s.vm.method? m = some meth) (h3 : meth.code = some c) (h4 : c.code = bytes)
    (h5 : (c.maxLocals == mx && c.exceptionTable.isEmpty && decide (c.maxStack ≤ mostOperands) && decide (meth.sig.returnType = rt) && !meth.locks && decide (parseMethodDescriptor y.desc = some meth.sig)) = true) : (Jvm.Cond.code y bytes mx rt).before a s = true := by
  simp only [Bool.and_eq_true, beq_iff_eq, Bool.not_eq_true', decide_eq_true_eq] at h5
  obtain ⟨⟨⟨⟨⟨g1, g2⟩, g3⟩, g4⟩, g5⟩, g6⟩ := h5
  simp [Cond.before, Cond.holds, Cond.value, h1, h2, h3, h4, g1, g2, g3, g4, g5, g6]
def isCode : Jvm.Cond → Bool
  | .code _ _ _ _ => true
  | _ => false
theorem all_split {L : List Jvm.Cond} {P : Jvm.Cond → Bool} (h1 : L.all (fun c => isCode c || P c) = true) (h2 : ∀ c ∈ L.filter isCode, P c = true) : L.all P = true := by
  refine List.all_eq_true.mpr fun c hc => ?_
  have h := List.all_eq_true.mp h1 c hc
  rcases Bool.eq_false_or_eq_true (isCode c) with hi | hi
  · exact h2 c (List.mem_filter.mpr ⟨hc, hi⟩)
  · simpa [hi] using h
set_option maxRecDepth 65536 in
theorem w_c0 : (Jvm.Cond.code x code maxLocals ret).before args0 about1 = true := code_word (m := ⟨1, 1⟩) (meth := k1m1) (c := k1c1) (by decide +kernel) rfl rfl rfl (by decide +kernel)
set_option maxRecDepth 65536 in
theorem w_c1 : (Jvm.Cond.code ({ cls := "com/example/cosine/cosine/index/IntList", name := "<init>", desc := "(I)V" } : Jvm.MethodName) prog_18_method_1_code (2 : Nat) (Option.none : Option Jvm.ClassFile.FieldType)).before args0 about1 = true := code_word (m := ⟨2, 0⟩) (meth := k2m0) (c := k2c0) (by decide +kernel) rfl rfl rfl (by decide +kernel)
set_option maxRecDepth 65536 in
theorem w_c2 : (Jvm.Cond.code ({ cls := "java/lang/Object", name := "<init>", desc := "()V" } : Jvm.MethodName) object_method_1_code (1 : Nat) (Option.none : Option Jvm.ClassFile.FieldType)).before args0 about1 = true := code_word (m := ⟨0, 0⟩) (meth := k0m0) (c := k0c0) (by decide +kernel) rfl rfl rfl (by decide +kernel)
set_option maxRecDepth 65536 in
theorem w_c3 : (Jvm.Cond.code ({ cls := "com/example/cosine/cosine/index/IntList", name := "add", desc := "(I)V" } : Jvm.MethodName) prog_18_method_2_code (4 : Nat) (Option.none : Option Jvm.ClassFile.FieldType)).before args0 about1 = true := code_word (m := ⟨2, 1⟩) (meth := k2m1) (c := k2c1) (by decide +kernel) rfl rfl rfl (by decide +kernel)
set_option maxRecDepth 65536 in
theorem w_c4 : (Jvm.Cond.code ({ cls := "java/lang/Math", name := "max", desc := "(JJ)J" } : Jvm.MethodName) jdk_29_method_66_code (4 : Nat) (Option.some Jvm.ClassFile.FieldType.long)).before args0 about1 = true := code_word (m := ⟨3, 1⟩) (meth := k3m1) (c := k3c1) (by decide +kernel) rfl rfl rfl (by decide +kernel)
set_option maxRecDepth 65536 in
theorem w_c5 : (Jvm.Cond.code ({ cls := "java/lang/Math", name := "min", desc := "(JJ)J" } : Jvm.MethodName) jdk_29_method_70_code (4 : Nat) (Option.some Jvm.ClassFile.FieldType.long)).before args0 about1 = true := code_word (m := ⟨3, 3⟩) (meth := k3m3) (c := k3c3) (by decide +kernel) rfl rfl rfl (by decide +kernel)
set_option maxRecDepth 65536 in
theorem w_c6 : (Jvm.Cond.code ({ cls := "java/util/Arrays", name := "copyOf", desc := "([II)[I" } : Jvm.MethodName) jdk_65_method_123_code (3 : Nat) (Option.some (Jvm.ClassFile.FieldType.array Jvm.ClassFile.FieldType.int))).before args0 about1 = true := code_word (m := ⟨4, 1⟩) (meth := k4m1) (c := k4c1) (by decide +kernel) rfl rfl rfl (by decide +kernel)
set_option maxRecDepth 65536 in
theorem w_c7 : (Jvm.Cond.code ({ cls := "java/lang/Math", name := "min", desc := "(II)I" } : Jvm.MethodName) jdk_29_method_69_code (2 : Nat) (Option.some Jvm.ClassFile.FieldType.int)).before args0 about1 = true := code_word (m := ⟨3, 2⟩) (meth := k3m2) (c := k3c2) (by decide +kernel) rfl rfl rfl (by decide +kernel)
set_option maxRecDepth 65536 in
theorem w_c8 : (Jvm.Cond.code ({ cls := "com/example/cosine/cosine/index/IntList", name := "size", desc := "()I" } : Jvm.MethodName) prog_18_method_5_code (1 : Nat) (Option.some Jvm.ClassFile.FieldType.int)).before args0 about1 = true := code_word (m := ⟨2, 3⟩) (meth := k2m3) (c := k2c3) (by decide +kernel) rfl rfl rfl (by decide +kernel)
set_option maxRecDepth 65536 in
theorem w_c9 : (Jvm.Cond.code ({ cls := "com/example/cosine/cosine/index/IntList", name := "get", desc := "(I)I" } : Jvm.MethodName) prog_18_method_4_code (2 : Nat) (Option.some Jvm.ClassFile.FieldType.int)).before args0 about1 = true := code_word (m := ⟨2, 2⟩) (meth := k2m2) (c := k2c2) (by decide +kernel) rfl rfl rfl (by decide +kernel)
def codes1 : List Jvm.Cond := [Jvm.Cond.code x code maxLocals ret, Jvm.Cond.code ({ cls := "com/example/cosine/cosine/index/IntList", name := "<init>", desc := "(I)V" } : Jvm.MethodName) prog_18_method_1_code (2 : Nat) (Option.none : Option Jvm.ClassFile.FieldType), Jvm.Cond.code ({ cls := "java/lang/Object", name := "<init>", desc := "()V" } : Jvm.MethodName) object_method_1_code (1 : Nat) (Option.none : Option Jvm.ClassFile.FieldType), Jvm.Cond.code ({ cls := "com/example/cosine/cosine/index/IntList", name := "add", desc := "(I)V" } : Jvm.MethodName) prog_18_method_2_code (4 : Nat) (Option.none : Option Jvm.ClassFile.FieldType), Jvm.Cond.code ({ cls := "java/lang/Math", name := "max", desc := "(JJ)J" } : Jvm.MethodName) jdk_29_method_66_code (4 : Nat) (Option.some Jvm.ClassFile.FieldType.long), Jvm.Cond.code ({ cls := "java/lang/Math", name := "min", desc := "(JJ)J" } : Jvm.MethodName) jdk_29_method_70_code (4 : Nat) (Option.some Jvm.ClassFile.FieldType.long), Jvm.Cond.code ({ cls := "java/util/Arrays", name := "copyOf", desc := "([II)[I" } : Jvm.MethodName) jdk_65_method_123_code (3 : Nat) (Option.some (Jvm.ClassFile.FieldType.array Jvm.ClassFile.FieldType.int)), Jvm.Cond.code ({ cls := "java/lang/Math", name := "min", desc := "(II)I" } : Jvm.MethodName) jdk_29_method_69_code (2 : Nat) (Option.some Jvm.ClassFile.FieldType.int), Jvm.Cond.code ({ cls := "com/example/cosine/cosine/index/IntList", name := "size", desc := "()I" } : Jvm.MethodName) prog_18_method_5_code (1 : Nat) (Option.some Jvm.ClassFile.FieldType.int), Jvm.Cond.code ({ cls := "com/example/cosine/cosine/index/IntList", name := "get", desc := "(I)I" } : Jvm.MethodName) prog_18_method_4_code (2 : Nat) (Option.some Jvm.ClassFile.FieldType.int)]
set_option maxRecDepth 65536 in
theorem codes_eq : words1.filter isCode = codes1 := rfl
theorem w_codes : ∀ c ∈ words1.filter isCode, c.before args0 about1 = true := by
  rw [codes_eq]
  intro c hc
  simp only [codes1, List.mem_cons, List.not_mem_nil, or_false] at hc
  rcases hc with rfl | rfl | rfl | rfl | rfl | rfl | rfl | rfl | rfl | rfl
  · exact w_c0
  · exact w_c1
  · exact w_c2
  · exact w_c3
  · exact w_c4
  · exact w_c5
  · exact w_c6
  · exact w_c7
  · exact w_c8
  · exact w_c9
set_option maxRecDepth 65536 in
theorem w_t1 : (words1.take 24).all (fun c => isCode c || c.before args0 about1) = true := by decide +kernel
set_option maxRecDepth 65536 in
theorem w_t2 : ((words1.drop 24).take 24).all (fun c => isCode c || c.before args0 about1) = true := by decide +kernel
set_option maxRecDepth 65536 in
theorem w_t3 : ((words1.drop 24).drop 24).all (fun c => isCode c || c.before args0 about1) = true := by decide +kernel
theorem w_tables : (allAtoms (Jvm.Cond.code x code maxLocals ret :: tables_1)).before args0 about1 = true := by
  rw [allAtoms_all]
  show words1.all (fun c => c.before args0 about1) = true
  refine all_split ?_ w_codes
  rw [← List.take_append_drop 24 words1, List.all_append, w_t1, ← List.take_append_drop 24 (words1.drop 24), List.all_append, w_t2, w_t3]
  rfl
set_option maxRecDepth 65536 in
theorem w_case : (Jvm.Cond.and given_1 narrow_1).before args0 about1 = true := by decide +kernel
theorem w_applies : (headSpec (Jvm.Cond.code x code maxLocals ret :: tables_1) room_1).applies x e0.platform about1 = true :=
  (Spec.applies_iff w_frames).mpr ⟨w_running, w_runnable, w_alone, w_named, w_hears, w_ripe, w_room, w_tables⟩
theorem atStart : AtStart classFile x code maxLocals ret World_1 tables_1 room_1 Calls_1 rest_1 Pre_1 launch0 p0 e0 about1 theMethod args0 below0 :=
  ⟨lists_1, trivial, launch0.admits_env _ _ _, launch0.least_env, fairChoices_fair.cas, fairChoices_fair.clock, w_frames, w_args, w_heap, w_applies, trivial, trivial, w_case⟩
end start1
theorem witness_1 : WitnessClaimed_1 := ⟨start1.p0, start1.e0, start1.about1, start1.theMethod, start1.args0, start1.below0, start1.atStart⟩
end Jvm.Pilot.@@N@@
