import JvmDerived
import JvmDerived.Pilot.@@N@@Statement
import JvmDerived.Pilot.@@N@@Code
set_option linter.unusedVariables false
set_option linter.unusedSimpArgs false
namespace Jvm.Pilot.@@N@@
open Jvm Jvm.ClassFile Sem Op Lib Jvm.Free Jvm.Stand Jvm.LawKit Jvm.RoadKit Bundle Jvm.Pilot.@@N@@.Jvm.D
/-! OWN PRELUDE: a walk in continuation form: 'Goes .. U': from U on the body comes to its return, with Q -/
section OwnPrelude
variable {p : Program} {l : Launch} {e : Env} {R : Room} {s : State} {m : MethodId} {args : Array Value} {below : List Frame} {meth : Method} {c : Code} {T U U' : State} {locs : List Loc} {cells slots ce sl : Nat} {Q : Option Value → Heap → List Loc → Prop}
def Goes (p : Program) (e : Env) (s : State) (below : List Frame) (Q : Option Value → Heap → List Loc → Prop) (ce sl : Nat) (U : State) : Prop :=
  ∃ t o, Steps p.tables e below U t ∧ t.status = .running ∧ Ended t below o ∧ ∃ v L, o = .returned v ∧ Q v t.heap L ∧ FrameEnd s o t L ce sl
theorem Goes.st (h : ∀ t, Steps p.tables e below U' t → Steps p.tables e below U t) (k : Goes p e s below Q ce sl U') : Goes p e s below Q ce sl U := by
  obtain ⟨t, o, h1, r⟩ := k
  exact ⟨t, o, h t h1, r⟩
theorem Goes.tr (h : Steps p.tables e below U U') (k : Goes p e s below Q ce sl U') : Goes p e s below Q ce sl U := by
  obtain ⟨t, o, h1, r⟩ := k
  exact ⟨t, o, h.trans h1, r⟩
theorem Goes.out (X : Stand p l e R s m args below meth c T locs cells slots) (hlocks : meth.locks = false) {v : Option Value} (hv : meth.sig.returnType = none → v = none) (hc : cells ≤ ce) (hs : slots ≤ sl) (hq : Q v T.heap locs)
    (k : ∀ fs, (∀ (f : JFrame) (acts : List Action), f.method = m → f.locked = none → f.entered = [] → (doReturn e (T.setTop f) acts v).1 = T.setFrames fs) → Steps p.tables e below U (T.setFrames fs)) : Goes p e s below Q ce sl U := by
  obtain ⟨fs, hr, hrun, hended, hW, hsame⟩ := X.leave (v := v) hv hlocks
  exact ⟨_, _, k fs hr, hrun, hended, _, _, rfl, hq, ⟨_, rfl⟩, hW, hsame.mono hc hs⟩
theorem Goes.retI (X : Stand p l e R s m args below meth c T locs cells slots) (hx : p.tables.exec = Jvm.exec) (hlocks : meth.locks = false) {pc : Nat} {Ls : Array Slot} {z : Int32} {rest : List Value} (hret : meth.sig.returnType = some .int) (hd : decode c.code pc = .ok (.ireturn, 1))
    (hc : cells ≤ ce) (hs : slots ≤ sl) (hq : Q (some (.int z)) T.heap locs) : Goes p e s below Q ce sl (T.setTop (mkF m pc Ls (.int z :: rest))) :=
  Goes.out X hlocks (fun h => by rw [hret] at h; cases h) hc hs hq fun fs hl => retOut X hx hret rfl (Or.inl ⟨rfl, Or.inl rfl, _, rfl⟩) hd hl
theorem Goes.retZ (X : Stand p l e R s m args below meth c T locs cells slots) (hx : p.tables.exec = Jvm.exec) (hlocks : meth.locks = false) {pc : Nat} {Ls : Array Slot} {z : Int32} {rest : List Value} (hret : meth.sig.returnType = some .boolean) (hd : decode c.code pc = .ok (.ireturn, 1))
    (hz : z &&& 1 = z) (hc : cells ≤ ce) (hs : slots ≤ sl) (hq : Q (some (.int z)) T.heap locs) : Goes p e s below Q ce sl (T.setTop (mkF m pc Ls (.int z :: rest))) :=
  Goes.out X hlocks (fun h => by rw [hret] at h; cases h) hc hs hq fun fs hl => retOut X hx hret (by show Value.int (z &&& 1) = _; rw [hz]) (Or.inl ⟨rfl, Or.inr (Or.inl rfl), _, rfl⟩) hd hl
theorem Goes.retJ (X : Stand p l e R s m args below meth c T locs cells slots) (hx : p.tables.exec = Jvm.exec) (hlocks : meth.locks = false) {pc : Nat} {Ls : Array Slot} {z : Int64} {rest : List Value} (hret : meth.sig.returnType = some .long) (hd : decode c.code pc = .ok (.lreturn, 1))
    (hc : cells ≤ ce) (hs : slots ≤ sl) (hq : Q (some (.long z)) T.heap locs) : Goes p e s below Q ce sl (T.setTop (mkF m pc Ls (.long z :: rest))) :=
  Goes.out X hlocks (fun h => by rw [hret] at h; cases h) hc hs hq fun fs hl => retOut X hx hret rfl (Or.inr (Or.inl ⟨rfl, rfl, _, rfl⟩)) hd hl
theorem Goes.retA (X : Stand p l e R s m args below meth c T locs cells slots) (hx : p.tables.exec = Jvm.exec) (hlocks : meth.locks = false) {pc : Nat} {Ls : Array Slot} {w : Value} {t : FieldType} {rest : List Value} (hret : meth.sig.returnType = some t) (hd : decode c.code pc = .ok (.areturn, 1))
    (ht : t.isReference = true) (hw : w.isRef = true) (hn : narrow t w = w) (hc : cells ≤ ce) (hs : slots ≤ sl) (hq : Q (some w) T.heap locs) : Goes p e s below Q ce sl (T.setTop (mkF m pc Ls (w :: rest))) :=
  Goes.out X hlocks (fun h => by rw [hret] at h; cases h) hc hs hq fun fs hl => retOut X hx hret hn (Or.inr (Or.inr (Or.inr (Or.inr ⟨rfl, ht, hw⟩)))) hd hl
theorem Goes.retV (X : Stand p l e R s m args below meth c T locs cells slots) (hx : p.tables.exec = Jvm.exec) (hlocks : meth.locks = false) {pc : Nat} {Ls : Array Slot} (hret : meth.sig.returnType = none) (hd : decode c.code pc = .ok (.return_, 1))
    (hc : cells ≤ ce) (hs : slots ≤ sl) (hq : Q none T.heap locs) : Goes p e s below Q ce sl (T.setTop (mkF m pc Ls [])) :=
  Goes.out X hlocks (fun _ => rfl) hc hs hq fun fs hl => X.returnOut hx hret hd hl
/-- a boolean as the machine has it -/
def b2i (b : Bool) : Int32 := if b then 1 else 0
theorem b2i_one (b : Bool) : b2i b &&& 1 = b2i b := by cases b <;> rfl
theorem b2i_t {b : Bool} (h : ¬ b2i b = 0) : b = true := by cases b; exact absurd rfl h; rfl
theorem b2i_f {b : Bool} (h : b2i b = 0) : b = false := by cases b; rfl; exact absurd h (by decide)
theorem Exa_ns {Z : State} {h : Heap} {a : Addr} {C : String} (E : Exa Z h a C) : ∀ cell : Cell, h[a]? = some cell → cell.vm.isStatics = false := fun cell hc => by
  obtain ⟨c1, _, h1, -, -, h4, -⟩ := E
  cases h1.symm.trans hc
  exact h4
theorem Sta_keep {Z : State} {h h' : Heap} {C n d : String} {v : Value} {ws : List Addr} (F : Sta Z h C n d v) (K : Keep h h' ws) (q : ∀ x ∈ ws, ∀ cell : Cell, h[x]? = some cell → cell.vm.isStatics = false) : Sta Z h' C n d v := by
  obtain ⟨cf, i, k, f, st, cell, h1, h2, h3, h4, h5, h6, h7⟩ := F
  exact ⟨cf, i, k, f, st, cell, h1, h2, h3, h4, K.2.1 _ _ h5 (fun y => by have := q _ y _ h5; rw [h6] at this; cases this), h6, h7⟩
theorem own_selp {u : State} {as : Array Value} {y : MethodName} {n : Nat} (hins : (Cond.instantiable y.cls n).before as u = true) (hpriv : u.PrivateAt y) (hinst : (Cond.instanceMethod y).before as u = true) (hy : y.cls ≠ "java/lang/invoke/MethodHandle" ∧ y.cls ≠ "java/lang/invoke/VarHandle") : (Cond.selects y.cls y y).before as u = true := by
  obtain ⟨c, k, hc, hk, -, hniab, -, -⟩ := Cond.instantiable_spec hins
  exact selects_self_of_private hc hk (Bool.or_eq_false_iff.mp hniab).1 hpriv hinst hy
end OwnPrelude

/-- a ByteOutput: the object, its array of 64, what it holds -/
def BO (Z : State) (h : Heap) (a arr : Addr) (k : ClassId) (xs : List Int32) : Prop :=
  Exa Z h a "com/example/compokey/compokey/keys/ByteOutput" ∧ Fld Z h a "com/example/compokey/compokey/keys/ByteOutput" "size" "I" (.int xs.length.toInt32) ∧ Fld Z h a "com/example/compokey/compokey/keys/ByteOutput" "bytes" "[B" (.ref arr) ∧ Arv Z h arr k .byte (64 : Int32) (xs.map .int) (.int (0 : Int32)) ∧ Exa Z h arr "[B" ∧ a ≠ arr
/-- the byte that is stored for a shift -/
def own_by (q : Int64) (sh : Int32) : Int32 := (((((q.toUInt64 >>> (sh &&& 0x3f).toInt64.toUInt64).toInt64).toInt32).toInt8.toInt32).toInt8.toInt32)
def own_sh (k : Nat) : Int32 := (8 * k).toInt32 - 8
def own_be (q : Int64) : Nat → List Int32
  | 0 => []
  | k + 1 => own_by q (own_sh (k + 1)) :: own_be q k
def own_neg (b : Int32) : Int32 := (((b ^^^ (-1 : Int32)).toInt8.toInt32).toInt8.toInt32)
def own_inv : Nat → Nat → List Int32 → List Int32
  | 0, _, ys => ys
  | k + 1, i, ys => own_inv k (i + 1) (ys.set i (own_neg (ys.getD i 0)))
theorem own_be_len (q : Int64) (n : Nat) : (own_be q n).length = n := by
  induction n with
  | zero => rfl
  | succ n ih => simp [own_be, ih]
theorem own_inv_len (k i : Nat) (ys : List Int32) : (own_inv k i ys).length = ys.length := by
  induction k generalizing i ys with
  | zero => rfl
  | succ k ih => rw [own_inv, ih, List.length_set]
theorem own_small (P : Nat → Prop) (h : ∀ v : Fin 17, P v.1) (n : Nat) (hn : n ≤ 16) : P n := h ⟨n, by omega⟩
theorem own_nat (n : Nat) (h : n ≤ 16) : ¬ n.toInt32 < 0 ∧ n.toInt32.toNatClampNeg = n ∧ (n + 1).toInt32 = n.toInt32 + (1 : Int32) ∧ n.toInt32 < 64 ∧ ¬ n.toInt32 = 64 ∧ n.toInt32.toInt = n :=
  own_small (fun n => ¬ n.toInt32 < 0 ∧ n.toInt32.toNatClampNeg = n ∧ (n + 1).toInt32 = n.toInt32 + (1 : Int32) ∧ n.toInt32 < 64 ∧ ¬ n.toInt32 = 64 ∧ n.toInt32.toInt = n) (by decide +kernel) n h
theorem own_cmp (a b : Nat) (ha : a ≤ 16) (hb : b ≤ 16) : a.toInt32 < b.toInt32 ↔ a < b := by
  rw [Int32.lt_iff_toInt_lt, (own_nat a ha).2.2.2.2.2, (own_nat b hb).2.2.2.2.2]
  omega
theorem own_shf (k : Nat) (h : k ≤ 8) : ¬ own_sh (k + 1) < 0 ∧ own_sh (k + 1) + (-8 : Int32) = own_sh k :=
  own_small (fun k => ¬ own_sh (k + 1) < 0 ∧ own_sh (k + 1) + (-8 : Int32) = own_sh k) (by decide +kernel) k (by omega)
theorem own_sh0 (n : Nat) (h : n ≤ 8) : (n.toInt32 - (1 : Int32)) * (8 : Int32) = own_sh n :=
  own_small (fun n => (n.toInt32 - (1 : Int32)) * (8 : Int32) = own_sh n) (by decide +kernel) n (by omega)
theorem own_push {Z : State} {h h' : Heap} {a : Addr} {k : ClassId} {ty : FieldType} {z j : Int32} {vs : List Value} {dv v : Value} {c : Cell} (A : Arr Z h a c ty) (q1 : c.cls = k) (S : c.slots.size = z.toNatClampNeg) (q3 : ¬ z < 0) (H : Has c vs dv) (G : ∀ i, i < c.slots.size → fits ty (vs.getD i dv) = true)
    (hv : fits ty v = true) (W : Wr h h' a j.toNatClampNeg v) (hj : j.toNatClampNeg = vs.length) : Arv Z h' a k ty z (vs ++ [v]) dv := by
  have q := Arv.set (vs := vs ++ List.replicate 1 dv) A q1 S q3 (fun i hi => by rw [pad_rep]; exact H i hi) (fun i hi => by rw [pad_rep]; exact G i hi) hv W vs.length hj (by simp)
  have e : (vs ++ List.replicate 1 dv).set vs.length v = vs ++ [v] := by simp
  rwa [e] at q
theorem own_lt64 (n : Nat) (h : n ≤ 16) : ¬ n.toInt32 < 0 ∧ n.toInt32 < (64 : Int32) := ⟨(own_nat n h).1, (own_nat n h).2.2.2.1⟩
theorem own_getD (xs : List Int32) (i : Nat) : (xs.map Value.int).getD i (.int (0 : Int32)) = .int (xs.getD i 0) := by
  simp only [List.getD_eq_getElem?_getD, List.getElem?_map]
  cases xs[i]? <;> rfl
theorem own_setm (xs : List Int32) (i : Nat) (v : Int32) : (xs.map Value.int).set i (.int v) = (xs.set i v).map Value.int := by simp

theorem d1_0 : decode prog_9_method_1_code 0 = .ok (.aload_n 0, 1) := by decide +kernel
theorem d1_1 : decode prog_9_method_1_code 1 = .ok (.invokespecial 1, 3) := by decide +kernel
theorem d1_4 : decode prog_9_method_1_code 4 = .ok (.aload_n 0, 1) := by decide +kernel
theorem d1_5 : decode prog_9_method_1_code 5 = .ok (.bipush 64, 2) := by decide +kernel
theorem d1_7 : decode prog_9_method_1_code 7 = .ok (.newarray .byte, 2) := by decide +kernel
theorem d1_9 : decode prog_9_method_1_code 9 = .ok (.putfield 9, 3) := by decide +kernel
theorem d1_12 : decode prog_9_method_1_code 12 = .ok (.return_, 1) := by decide +kernel
theorem pn_0 : plainName "com/example/compokey/compokey/keys/ByteOutput" = true := by first | (simp [plainName, overriddenIn]; done) | decide +kernel
theorem ef_rm1 (m : MethodId) (a1 : Addr) : entryFrame m #[(.ref a1)] 1 = mkF m 0 #[.val (.ref a1)] [] := by first | (simp [entryFrame, mkF, argsToLocals, Value.category]; done) | rfl
def Q1 (Z : State) (a1 : Addr) (h0 : Heap) (n0 : Nat) (v : Option Value) (h : Heap) (L : List Loc) : Prop := v = none ∧ Fr n0 L ∧ Keep h0 h [a1] ∧ ∃ arr k, BO Z h a1 arr k [] ∧ n0 ≤ arr ∧ h0.size ≤ arr
set_option maxRecDepth 65536 in
set_option maxHeartbeats 40000000 in
theorem rm1 (l : Launch) (Z : State) (a0 : Array Value) (hw : ∀ d ∈ tables_1, d.before a0 Z = true) (ws : List Jvm.Cond) (a1 : Addr) (h0 : Heap) (n0 : Nat) (Z0 : n0 ≤ h0.size) (E_a1 : Exa Z h0 a1 "com/example/compokey/compokey/keys/ByteOutput") (F_bytes_a1 : Fld Z h0 a1 "com/example/compokey/compokey/keys/ByteOutput" "bytes" "[B" .null) (F_size_a1 : Fld Z h0 a1 "com/example/compokey/compokey/keys/ByteOutput" "size" "I" (.int (0 : Int32))) (g_a1 : n0 ≤ a1) :
    MetFree l (⟨"com/example/compokey/compokey/keys/ByteOutput", "<init>", "()V"⟩ : MethodName) (head1 (Jvm.Cond.code (⟨"com/example/compokey/compokey/keys/ByteOutput", "<init>", "()V"⟩ : MethodName) prog_9_method_1_code 1 none :: ws) ({ frames := 1, cells := 1, slots := 64, locals := 12 } : Room)) (fun a U => a = #[(.ref a1)] ∧ Z.Warmed39 U.vm ∧ U.heap = h0) (fun _ _ _ _ _ => True) (fun _ U o U' => ∃ v L, o = .returned v ∧ Q1 Z a1 h0 n0 v U'.heap L ∧ FrameEnd U o U' L ({ frames := 1, cells := 1, slots := 64, locals := 12 } : Room).cells ({ frames := 1, cells := 1, slots := 64, locals := 12 } : Room).slots) := by
  refine MetFree.of_bodySF (plainFor_of_name pn_0) hisR ?_
  intro p e s m args below meth c s₁ Bd hml0 hP hK
  obtain ⟨rfl, hZ, hh⟩ := hP
  have hx := Bd.exec
  have hby := Bd.bytes
  have hml : c.maxLocals = 1 := hml0
  have hown : s.vm.findClass "com/example/compokey/compokey/keys/ByteOutput" = some m.cls := findClass_of_methodNamed Bd.named
  have hnm := (name_of_methodNamed Bd.named Bd.method).1
  have X0 : Stand p l e ({ frames := 1, cells := 1, slots := 64, locals := 12 } : Room) s m #[(.ref a1)] below meth c s₁ [] 0 0 := Stand.of_body Bd
  have e0 : s₁.heap = h0 := by rw [← hh, Bd.state]; rfl
  have N0 := Fr.nil n0
  show Goes p e s below (fun v h L => Q1 Z a1 h0 n0 v h L) ({ frames := 1, cells := 1, slots := 64, locals := 12 } : Room).cells ({ frames := 1, cells := 1, slots := 64, locals := 12 } : Room).slots (s₁.setTop (entryFrame m #[(.ref a1)] 1))
  refine Goes.st (U' := s₁.setTop (mkF m 0 #[.val (.ref a1)] [])) (fun t k => castTop (ef_rm1 m a1) k) ?_
  refine Goes.st (U' := s₁.setTop (mkF m 1 #[.val (.ref a1)] [(.ref a1)])) (fun t k => XS.aloadN X0.here hx rfl (hb hby d1_0) rfl rfl k) ?_
  obtain ⟨T1, X1, e1, st1⟩ := initO X0 hx hZ hown (hw _ (List.mem_of_getElem? (i := 7) rfl)) (hw _ (List.mem_of_getElem? (i := 8) rfl)) (hw _ (List.mem_of_getElem? (i := 9) rfl)) e0 (g := (mkF m 1 #[.val (.ref a1)] [(.ref a1)])) rfl (by rw [hml]; rfl) rfl (hb hby d1_1) (by decide) (W := 0) (by show 2 * 0 + _ ≤ _; exact Nat.le_of_eq rfl) (by decide)
  refine Goes.st (U' := T1.setTop (mkF m 4 #[.val (.ref a1)] [])) (fun t k => st1 t k) ?_
  refine Goes.st (U' := T1.setTop (mkF m 5 #[.val (.ref a1)] [(.ref a1)])) (fun t k => XS.aloadN X1.here hx rfl (hb hby d1_4) rfl rfl k) ?_
  refine Goes.st (U' := T1.setTop (mkF m 7 #[.val (.ref a1)] [(.int (64 : Int32)), (.ref a1)])) (fun t k => XS.bipush X1.here hx rfl (hb hby d1_5) k) ?_
  obtain ⟨T2, h2, k2, X2, e2, E2, A2, Ea2, st2⟩ := newPE X1 hx hZ (hw _ (List.mem_of_getElem? (i := 10) rfl)) e1 (g := (mkF m 7 #[.val (.ref a1)] [(.int (64 : Int32)), (.ref a1)])) rfl (hb hby d1_7) rfl (by decide) (cap := 64) (by decide) (by decide) (by decide) (by decide) (ad := "[B") rfl
  obtain ⟨b2, g2⟩ : ∃ z, z = h0.size := ⟨_, rfl⟩
  rw [← g2] at A2 Ea2 st2
  have ne_a1_b2 : a1 ≠ b2 := Nat.ne_of_lt (Nat.lt_of_lt_of_le E_a1.lt (Nat.le_of_eq g2.symm))
  have g_b2 : n0 ≤ b2 := Nat.le_trans Z0 (Nat.le_of_eq g2.symm)
  have sz_b2 : h0.size ≤ b2 := Nat.le_trans (Keep.refl h0 [a1]).1 (Nat.le_of_eq g2.symm)
  have K_3 : Keep h0 h2 [a1] := (Keep.refl h0 [a1]).ext E2
  have V_b2 : Arv Z h2 b2 k2 .byte (64 : Int32) [] (.int (0 : Int32)) := Arv.new A2 (by decide)
  refine Goes.st (U' := T2.setTop (mkF m 9 #[.val (.ref a1)] [(.ref b2), (.ref a1)])) (fun t k => st2 t k) ?_
  obtain ⟨T4, h4, X4, e4, W4, st4⟩ := putF X2 hx hZ hown (host := "") (Or.inl (hw _ (List.mem_of_getElem? (i := 11) rfl))) Via.refl e2 (F_bytes_a1.ext E2) (E_a1.ext E2) (Or.inl (hw _ (List.mem_of_getElem? (i := 12) rfl))) (hw _ (List.mem_of_getElem? (i := 2) rfl)) (ty := (.array .byte)) (by decide) rfl rfl (g := (mkF m 9 #[.val (.ref a1)] [(.ref b2), (.ref a1)])) rfl rfl (hb hby d1_9)
  have Fw4 := (F_bytes_a1.ext E2).same W4
  have N4 := Fr.snoc X4 N0 g_a1
  have K_5 : Keep h0 h4 [a1] := K_3.wr W4 (Or.inl (List.mem_of_getElem? (i := 0) rfl))
  refine Goes.st (U' := T4.setTop (mkF m 12 #[.val (.ref a1)] [])) (fun t k => st4 t k) ?_
  refine Goes.retV X4 hx (BodyLoose.notSynchronized Bd) Bd.returns (hb hby d1_12) (by decide) (by decide) ?_
  show Q1 Z a1 h0 n0 _ T4.heap _
  rw [e4]
  exact ⟨rfl, N4, K_5, b2, k2, ⟨((E_a1.ext E2).wr W4), ((F_size_a1.ext E2).other W4 (Or.inr (slot_ne (Or.inl (hw _ (List.mem_of_getElem? (i := 19) rfl))) (Or.inl (hw _ (List.mem_of_getElem? (i := 12) rfl))) (by decide) (t := .int) (t' := (.array .byte)) (by decide) (by decide)))), Fw4, (V_b2.other W4 (Ne.symm ne_a1_b2)), (Ea2.wr W4), ne_a1_b2⟩, g_b2, sz_b2⟩
theorem d4_0 : decode prog_9_method_8_code 0 = .ok (.iload_n 1, 1) := by decide +kernel
theorem d4_1 : decode prog_9_method_8_code 1 = .ok (.aload_n 0, 1) := by decide +kernel
theorem d4_2 : decode prog_9_method_8_code 2 = .ok (.getfield 9, 3) := by decide +kernel
theorem d4_5 : decode prog_9_method_8_code 5 = .ok (.arraylength, 1) := by decide +kernel
theorem d4_6 : decode prog_9_method_8_code 6 = .ok (.if_icmp .le 25, 3) := by decide +kernel
theorem d4_31 : decode prog_9_method_8_code 31 = .ok (.return_, 1) := by decide +kernel
theorem ef_rm4 (m : MethodId) (a1 : Addr) (p2 : Int32) : entryFrame m #[(.ref a1), (.int p2)] 2 = mkF m 0 #[.val (.ref a1), .val (.int p2)] [] := by first | (simp [entryFrame, mkF, argsToLocals, Value.category]; done) | rfl
def Q4 (Z : State) (a1 : Addr) (p2 : Int32) (arr : Addr) (k : ClassId) (xs : List Int32) (h0 : Heap) (n0 : Nat) (v : Option Value) (h : Heap) (L : List Loc) : Prop := v = none ∧ Fr n0 L ∧ h = h0
set_option maxRecDepth 65536 in
set_option maxHeartbeats 40000000 in
theorem rm4 (l : Launch) (Z : State) (a0 : Array Value) (hw : ∀ d ∈ tables_1, d.before a0 Z = true) (ws : List Jvm.Cond) (a1 : Addr) (p2 : Int32) (arr : Addr) (k : ClassId) (xs : List Int32) (h0 : Heap) (n0 : Nat) (Z0 : n0 ≤ h0.size) (I : BO Z h0 a1 arr k xs) (hp : ¬ (64 : Int32) < p2) :
    MetFree l (⟨"com/example/compokey/compokey/keys/ByteOutput", "ensureCapacity", "(I)V"⟩ : MethodName) (head1 (Jvm.Cond.code (⟨"com/example/compokey/compokey/keys/ByteOutput", "ensureCapacity", "(I)V"⟩ : MethodName) prog_9_method_8_code 2 none :: ws) ({ frames := 0, cells := 0, slots := 0, locals := 0 } : Room)) (fun a U => a = #[(.ref a1), (.int p2)] ∧ Z.Warmed39 U.vm ∧ U.heap = h0) (fun _ _ _ _ _ => True) (fun _ U o U' => ∃ v L, o = .returned v ∧ Q4 Z a1 p2 arr k xs h0 n0 v U'.heap L ∧ FrameEnd U o U' L ({ frames := 0, cells := 0, slots := 0, locals := 0 } : Room).cells ({ frames := 0, cells := 0, slots := 0, locals := 0 } : Room).slots) := by
  refine MetFree.of_bodySF (plainFor_of_name pn_0) hisR ?_
  intro p e s m args below meth c s₁ Bd hml0 hP hK
  obtain ⟨rfl, hZ, hh⟩ := hP
  have hx := Bd.exec
  have hby := Bd.bytes
  have hml : c.maxLocals = 2 := hml0
  have hown : s.vm.findClass "com/example/compokey/compokey/keys/ByteOutput" = some m.cls := findClass_of_methodNamed Bd.named
  have hnm := (name_of_methodNamed Bd.named Bd.method).1
  have X0 : Stand p l e ({ frames := 0, cells := 0, slots := 0, locals := 0 } : Room) s m #[(.ref a1), (.int p2)] below meth c s₁ [] 0 0 := Stand.of_body Bd
  have e0 : s₁.heap = h0 := by rw [← hh, Bd.state]; rfl
  have N0 := Fr.nil n0
  show Goes p e s below (fun v h L => Q4 Z a1 p2 arr k xs h0 n0 v h L) ({ frames := 0, cells := 0, slots := 0, locals := 0 } : Room).cells ({ frames := 0, cells := 0, slots := 0, locals := 0 } : Room).slots (s₁.setTop (entryFrame m #[(.ref a1), (.int p2)] 2))
  refine Goes.st (U' := s₁.setTop (mkF m 0 #[.val (.ref a1), .val (.int p2)] [])) (fun t k => castTop (ef_rm4 m a1 p2) k) ?_
  obtain ⟨E_a1, F_size_a1, F_bytes_a1, V_arr, E_arr, ne_a1_arr⟩ := I
  refine Goes.st (U' := s₁.setTop (mkF m 1 #[.val (.ref a1), .val (.int p2)] [(.int p2)])) (fun t k => XS.iloadN X0.here hx rfl (hb hby d4_0) rfl k) ?_
  refine Goes.st (U' := s₁.setTop (mkF m 2 #[.val (.ref a1), .val (.int p2)] [(.ref a1), (.int p2)])) (fun t k => XS.aloadN X0.here hx rfl (hb hby d4_1) rfl rfl k) ?_
  obtain ⟨T1, X1, e1, st1⟩ := getF X0 hx hZ hown (host := "") (Or.inl (hw _ (List.mem_of_getElem? (i := 11) rfl))) Via.refl e0 F_bytes_a1 (g := (mkF m 2 #[.val (.ref a1), .val (.int p2)] [(.ref a1), (.int p2)])) rfl rfl (hb hby d4_2)
  refine Goes.st (U' := T1.setTop (mkF m 5 #[.val (.ref a1), .val (.int p2)] [(.ref arr), (.int p2)])) (fun t k => st1 t k) ?_
  have Vx2 := V_arr
  obtain ⟨cl2, Ar2, -, S2, Nn2, -, -⟩ := Vx2
  refine Goes.st (U' := T1.setTop (mkF m 6 #[.val (.ref a1), .val (.int p2)] [(.int (64 : Int32)), (.int p2)])) (fun t k => (X1.arraylength hx (by rw [e1]; exact Ar2.1) (State.isArrayOf_alike hZ.alike Ar2.2.1) (g := (mkF m 5 #[.val (.ref a1), .val (.int p2)] [(.ref arr), (.int p2)])) rfl rfl (hb hby d4_5) t (by rw [len_of S2 Nn2]; exact k))) ?_
  refine Goes.st (U' := T1.setTop (mkF m 31 #[.val (.ref a1), .val (.int p2)] [])) (fun t k => XS.icmpYes X1.here hx rfl (pc0 := 6) (pc' := 31) rfl (hb hby d4_6) rfl (flt (hp : ¬ ((64 : Int32) < p2))).2.2.2 (by decide) (by decide) k) ?_
  refine Goes.retV X1 hx (BodyLoose.notSynchronized Bd) Bd.returns (hb hby d4_31) (by decide) (by decide) ?_
  show Q4 Z a1 p2 arr k xs h0 n0 _ T1.heap _
  rw [e1]
  exact ⟨rfl, N0, rfl⟩
theorem own_le64 (n : Nat) (h : n ≤ 8) : ¬ (64 : Int32) < ([] : List Int32).length.toInt32 + n.toInt32 :=
  own_small (fun n => ¬ (64 : Int32) < ([] : List Int32).length.toInt32 + n.toInt32) (by decide +kernel) n (by omega)
theorem d3_0 : decode prog_9_method_4_code 0 = .ok (.aload_n 0, 1) := by decide +kernel
theorem d3_1 : decode prog_9_method_4_code 1 = .ok (.aload_n 0, 1) := by decide +kernel
theorem d3_2 : decode prog_9_method_4_code 2 = .ok (.getfield 13, 3) := by decide +kernel
theorem d3_5 : decode prog_9_method_4_code 5 = .ok (.iload_n 3, 1) := by decide +kernel
theorem d3_6 : decode prog_9_method_4_code 6 = .ok (.iadd, 1) := by decide +kernel
theorem d3_7 : decode prog_9_method_4_code 7 = .ok (.invokevirtual 17, 3) := by decide +kernel
theorem d3_10 : decode prog_9_method_4_code 10 = .ok (.iload_n 3, 1) := by decide +kernel
theorem d3_11 : decode prog_9_method_4_code 11 = .ok (.iconst 1, 1) := by decide +kernel
theorem d3_12 : decode prog_9_method_4_code 12 = .ok (.isub, 1) := by decide +kernel
theorem d3_13 : decode prog_9_method_4_code 13 = .ok (.bipush 8, 2) := by decide +kernel
theorem d3_15 : decode prog_9_method_4_code 15 = .ok (.imul, 1) := by decide +kernel
theorem d3_16 : decode prog_9_method_4_code 16 = .ok (.istore 4, 2) := by decide +kernel
theorem d3_18 : decode prog_9_method_4_code 18 = .ok (.iload 4, 2) := by decide +kernel
theorem d3_20 : decode prog_9_method_4_code 20 = .ok (.ifCond .lt 31, 3) := by decide +kernel
theorem d3_23 : decode prog_9_method_4_code 23 = .ok (.aload_n 0, 1) := by decide +kernel
theorem d3_24 : decode prog_9_method_4_code 24 = .ok (.getfield 9, 3) := by decide +kernel
theorem d3_27 : decode prog_9_method_4_code 27 = .ok (.aload_n 0, 1) := by decide +kernel
theorem d3_28 : decode prog_9_method_4_code 28 = .ok (.dup, 1) := by decide +kernel
theorem d3_29 : decode prog_9_method_4_code 29 = .ok (.getfield 13, 3) := by decide +kernel
theorem d3_32 : decode prog_9_method_4_code 32 = .ok (.dup_x1, 1) := by decide +kernel
theorem d3_33 : decode prog_9_method_4_code 33 = .ok (.iconst 1, 1) := by decide +kernel
theorem d3_34 : decode prog_9_method_4_code 34 = .ok (.iadd, 1) := by decide +kernel
theorem d3_35 : decode prog_9_method_4_code 35 = .ok (.putfield 13, 3) := by decide +kernel
theorem d3_38 : decode prog_9_method_4_code 38 = .ok (.lload_n 1, 1) := by decide +kernel
theorem d3_39 : decode prog_9_method_4_code 39 = .ok (.iload 4, 2) := by decide +kernel
theorem d3_41 : decode prog_9_method_4_code 41 = .ok (.lushr, 1) := by decide +kernel
theorem d3_42 : decode prog_9_method_4_code 42 = .ok (.l2i, 1) := by decide +kernel
theorem d3_43 : decode prog_9_method_4_code 43 = .ok (.i2b, 1) := by decide +kernel
theorem d3_44 : decode prog_9_method_4_code 44 = .ok (.bastore, 1) := by decide +kernel
theorem d3_45 : decode prog_9_method_4_code 45 = .ok (.iinc 4 (-8), 3) := by decide +kernel
theorem d3_48 : decode prog_9_method_4_code 48 = .ok (.goto (-30), 3) := by decide +kernel
theorem d3_51 : decode prog_9_method_4_code 51 = .ok (.return_, 1) := by decide +kernel
theorem pd_0 : parseMethodDescriptor "(I)V" = some ⟨[.int], none⟩ := by decide +kernel
theorem ef_rm3 (m : MethodId) (a1 : Addr) (q2 : Int64) (p3 : Int32) : entryFrame m #[(.ref a1), (.long q2), (.int p3)] 5 = mkF m 0 #[.val (.ref a1), .val (.long q2), .second, .val (.int p3), .unset] [] := by first | (simp [entryFrame, mkF, argsToLocals, Value.category]; done) | rfl
def Q3 (Z : State) (a1 : Addr) (q2 : Int64) (p3 : Int32) (arr : Addr) (k : ClassId) (n : Nat) (h0 : Heap) (n0 : Nat) (v : Option Value) (h : Heap) (L : List Loc) : Prop := v = none ∧ Fr n0 L ∧ Keep h0 h [a1, arr] ∧ BO Z h a1 arr k (own_be q2 n)
set_option maxRecDepth 65536 in
set_option maxHeartbeats 40000000 in
theorem rm3 (l : Launch) (Z : State) (a0 : Array Value) (hw : ∀ d ∈ tables_1, d.before a0 Z = true) (ws : List Jvm.Cond) (a1 : Addr) (q2 : Int64) (p3 : Int32) (arr : Addr) (k : ClassId) (n : Nat) (h0 : Heap) (n0 : Nat) (Z0 : n0 ≤ h0.size) (I : BO Z h0 a1 arr k []) (hn8 : n ≤ 8) (hn : p3 = n.toInt32) (g_a1 : n0 ≤ a1) (g_arr : n0 ≤ arr) :
    MetFree l (⟨"com/example/compokey/compokey/keys/ByteOutput", "bigEndian", "(JI)V"⟩ : MethodName) (head1 (Jvm.Cond.code (⟨"com/example/compokey/compokey/keys/ByteOutput", "bigEndian", "(JI)V"⟩ : MethodName) prog_9_method_4_code 5 none :: ws) ({ frames := 1, cells := 0, slots := 0, locals := 13 } : Room)) (fun a U => a = #[(.ref a1), (.long q2), (.int p3)] ∧ Z.Warmed39 U.vm ∧ U.heap = h0) (fun _ _ _ _ _ => True) (fun _ U o U' => ∃ v L, o = .returned v ∧ Q3 Z a1 q2 p3 arr k n h0 n0 v U'.heap L ∧ FrameEnd U o U' L ({ frames := 1, cells := 0, slots := 0, locals := 13 } : Room).cells ({ frames := 1, cells := 0, slots := 0, locals := 13 } : Room).slots) := by
  refine MetFree.of_bodySF (plainFor_of_name pn_0) hisR ?_
  intro p e s m args below meth c s₁ Bd hml0 hP hK
  obtain ⟨rfl, hZ, hh⟩ := hP
  have hx := Bd.exec
  have hby := Bd.bytes
  have hml : c.maxLocals = 5 := hml0
  have hown : s.vm.findClass "com/example/compokey/compokey/keys/ByteOutput" = some m.cls := findClass_of_methodNamed Bd.named
  have hnm := (name_of_methodNamed Bd.named Bd.method).1
  have X0 : Stand p l e ({ frames := 1, cells := 0, slots := 0, locals := 13 } : Room) s m #[(.ref a1), (.long q2), (.int p3)] below meth c s₁ [] 0 0 := Stand.of_body Bd
  have e0 : s₁.heap = h0 := by rw [← hh, Bd.state]; rfl
  have N0 := Fr.nil n0
  show Goes p e s below (fun v h L => Q3 Z a1 q2 p3 arr k n h0 n0 v h L) ({ frames := 1, cells := 0, slots := 0, locals := 13 } : Room).cells ({ frames := 1, cells := 0, slots := 0, locals := 13 } : Room).slots (s₁.setTop (entryFrame m #[(.ref a1), (.long q2), (.int p3)] 5))
  refine Goes.st (U' := s₁.setTop (mkF m 0 #[.val (.ref a1), .val (.long q2), .second, .val (.int p3), .unset] [])) (fun t k => castTop (ef_rm3 m a1 q2 p3) k) ?_
  have hI := I
  obtain ⟨E_a1, F_size_a1, F_bytes_a1, V_arr, E_arr, ne_a1_arr⟩ := hI
  refine Goes.st (U' := s₁.setTop (mkF m 1 #[.val (.ref a1), .val (.long q2), .second, .val (.int p3), .unset] [(.ref a1)])) (fun t k => XS.aloadN X0.here hx rfl (hb hby d3_0) rfl rfl k) ?_
  refine Goes.st (U' := s₁.setTop (mkF m 2 #[.val (.ref a1), .val (.long q2), .second, .val (.int p3), .unset] [(.ref a1), (.ref a1)])) (fun t k => XS.aloadN X0.here hx rfl (hb hby d3_1) rfl rfl k) ?_
  obtain ⟨T1, X1, e1, st1⟩ := getF X0 hx hZ hown (host := "") (Or.inl (hw _ (List.mem_of_getElem? (i := 18) rfl))) Via.refl e0 F_size_a1 (g := (mkF m 2 #[.val (.ref a1), .val (.long q2), .second, .val (.int p3), .unset] [(.ref a1), (.ref a1)])) rfl rfl (hb hby d3_2)
  refine Goes.st (U' := T1.setTop (mkF m 5 #[.val (.ref a1), .val (.long q2), .second, .val (.int p3), .unset] [(.int (([] : List Int32).length.toInt32)), (.ref a1)])) (fun t k => st1 t k) ?_
  refine Goes.st (U' := T1.setTop (mkF m 6 #[.val (.ref a1), .val (.long q2), .second, .val (.int p3), .unset] [(.int p3), (.int (([] : List Int32).length.toInt32)), (.ref a1)])) (fun t k => XS.iloadN X1.here hx rfl (hb hby d3_5) rfl k) ?_
  refine Goes.st (U' := T1.setTop (mkF m 7 #[.val (.ref a1), .val (.long q2), .second, .val (.int p3), .unset] [(.int ((([] : List Int32).length.toInt32) + p3)), (.ref a1)])) (fun t k => XS.iadd X1.here hx rfl (hb hby d3_6) rfl k) ?_
  obtain ⟨cqz2, hqz2, hqz2'⟩ := E_a1.cell
  obtain ⟨_, _, ⟨T2, L2, k2, n2⟩, -, X2, ⟨Lc2, hQ2, l2, y2, z2⟩, st2⟩ := X1.privateBack hx (y := (⟨"com/example/compokey/compokey/keys/ByteOutput", "ensureCapacity", "(I)V"⟩ : MethodName)) hown (mvT hZ (hw _ (List.mem_of_getElem? (i := 20) rfl))) (mvT hZ (hw _ (List.mem_of_getElem? (i := 21) rfl))) (own_selp (mvT hZ (hw _ (List.mem_of_getElem? (i := 2) rfl))) (Cond.privateMethod_at (mvP hZ (hw _ (List.mem_of_getElem? (i := 22) rfl)) (args := #[]))) (mvT hZ (hw _ (List.mem_of_getElem? (i := 21) rfl))) (by decide)) (Cond.privateMethod_at (mvP hZ (hw _ (List.mem_of_getElem? (i := 22) rfl)) (args := #[]))) (mvT hZ (hw _ (List.mem_of_getElem? (i := 23) rfl))) (by decide) (backOf (W := 0) (rm4 l Z a0 hw [] a1 ((([] : List Int32).length.toInt32) + p3) arr k [] h0 n0 Z0 (I) ((by rw [hn]; exact own_le64 _ hn8))) hZ (hw _ (List.mem_of_getElem? (i := 23) rfl)) (hw _ (List.mem_of_getElem? (i := 3) rfl)) (by decide) (by decide)) (g := (mkF m 7 #[.val (.ref a1), .val (.long q2), .second, .val (.int p3), .unset] [(.int ((([] : List Int32).length.toInt32) + p3)), (.ref a1)])) rfl (by rw [hml]; rfl) (Steps.refl _) (a := a1) (by rw [e1]; exact hqz2) hqz2' (argsL := [(.int ((([] : List Int32).length.toInt32) + p3))]) (rest := []) (lenOf pd_0 rfl) rfl (by show 2 * 0 + _ ≤ _; exact Nat.le_of_eq rfl) (hb hby d3_7) (fun _ _ => ⟨rfl, e1, (by decide : 0 + 0 ≤ _), (by decide : 0 + 0 ≤ _)⟩)
  dsimp only [Pt.U, Pt.locs, Pt.cells, Pt.slots] at X2 l2 y2 z2 st2 hQ2
  subst l2 y2 z2
  obtain ⟨rfl, N2q, e2⟩ := hQ2
  have N2 := Fr.app N0 N2q
  refine Goes.tr (U' := T2.setTop (mkF m 10 #[.val (.ref a1), .val (.long q2), .second, .val (.int p3), .unset] [])) st2 ?_
  refine Goes.st (U' := T2.setTop (mkF m 11 #[.val (.ref a1), .val (.long q2), .second, .val (.int p3), .unset] [(.int p3)])) (fun t k => XS.iloadN X2.here hx rfl (hb hby d3_10) rfl k) ?_
  refine Goes.st (U' := T2.setTop (mkF m 12 #[.val (.ref a1), .val (.long q2), .second, .val (.int p3), .unset] [(.int (1 : Int32)), (.int p3)])) (fun t k => XS.iconst X2.here hx rfl (hb hby d3_11) k) ?_
  refine Goes.st (U' := T2.setTop (mkF m 13 #[.val (.ref a1), .val (.long q2), .second, .val (.int p3), .unset] [(.int (p3 - (1 : Int32)))])) (fun t k => XS.isub X2.here hx rfl (hb hby d3_12) rfl k) ?_
  refine Goes.st (U' := T2.setTop (mkF m 15 #[.val (.ref a1), .val (.long q2), .second, .val (.int p3), .unset] [(.int (8 : Int32)), (.int (p3 - (1 : Int32)))])) (fun t k => XS.bipush X2.here hx rfl (hb hby d3_13) k) ?_
  refine Goes.st (U' := T2.setTop (mkF m 16 #[.val (.ref a1), .val (.long q2), .second, .val (.int p3), .unset] [(.int ((p3 - (1 : Int32)) * (8 : Int32)))])) (fun t k => XS.imul X2.here hx rfl (hb hby d3_15) rfl k) ?_
  refine Goes.st (U' := T2.setTop (mkF m 18 #[.val (.ref a1), .val (.long q2), .second, .val (.int p3), .val (.int ((p3 - (1 : Int32)) * (8 : Int32)))] [])) (fun t k => XS.istore X2.here hx rfl (hb hby d3_16) rfl (l' := #[.val (.ref a1), .val (.long q2), .second, .val (.int p3), .val (.int ((p3 - (1 : Int32)) * (8 : Int32)))]) rfl k) ?_
  have loop : ∀ (k' : Nat) (T : State) (h : Heap) (locs : List Loc) (xs : List Int32), xs ++ own_be q2 k' = own_be q2 n → Stand p l e ({ frames := 1, cells := 0, slots := 0, locals := 13 } : Room) s m #[(.ref a1), (.long q2), (.int p3)] below meth c T locs 0 0 → T.heap = h → Fr n0 locs → Keep h0 h [a1, arr] → BO Z h a1 arr k xs → Goes p e s below (fun v h L => Q3 Z a1 q2 p3 arr k n h0 n0 v h L) (({ frames := 1, cells := 0, slots := 0, locals := 13 } : Room)).cells (({ frames := 1, cells := 0, slots := 0, locals := 13 } : Room)).slots (T.setTop (mkF m 18 #[.val (.ref a1), .val (.long q2), .second, .val (.int p3), .val (.int (own_sh k'))] [])) := by
    intro k'
    induction k' with
    | zero =>
      intro T h locs xs hxs X eT N Kp Ib
      have hxe : xs = own_be q2 n := by rw [← hxs]; exact (List.append_nil xs).symm
      obtain ⟨E_a1, F_size_a1, F_bytes_a1, V_arr, E_arr, ne_a1_arr⟩ := Ib
      refine Goes.st (U' := T.setTop (mkF m 20 #[.val (.ref a1), .val (.long q2), .second, .val (.int p3), .val (.int (own_sh 0))] [(.int (own_sh 0))])) (fun t k => XS.iload X.here hx rfl (hb hby d3_18) rfl k) ?_
      refine Goes.st (U' := T.setTop (mkF m 51 #[.val (.ref a1), .val (.long q2), .second, .val (.int p3), .val (.int (own_sh 0))] [])) (fun t k => XS.ifYes X.here hx rfl (pc0 := 20) (pc' := 51) rfl (hb hby d3_20) rfl ((if0 _ _).trans (tlt (by decide +kernel : (own_sh 0) < (0 : Int32))).1) (by decide) (by decide) k) ?_
      refine Goes.retV X hx (BodyLoose.notSynchronized Bd) Bd.returns (hb hby d3_51) (by decide) (by decide) ?_
      show Q3 Z a1 q2 p3 arr k n h0 n0 _ T.heap _
      rw [eT]
      exact ⟨rfl, N, Kp, hxe ▸ ⟨E_a1, F_size_a1, F_bytes_a1, V_arr, E_arr, ne_a1_arr⟩⟩
    | succ k' ih =>
      intro T h locs xs hxs X eT N Kp Ib
      have hlen : xs.length + (k' + 1) = n := by have q := congrArg List.length hxs; rw [List.length_append, own_be_len, own_be_len] at q; exact q
      obtain ⟨E_a1, F_size_a1, F_bytes_a1, V_arr, E_arr, ne_a1_arr⟩ := Ib
      refine Goes.st (U' := T.setTop (mkF m 20 #[.val (.ref a1), .val (.long q2), .second, .val (.int p3), .val (.int (own_sh (k' + 1)))] [(.int (own_sh (k' + 1)))])) (fun t k => XS.iload X.here hx rfl (hb hby d3_18) rfl k) ?_
      refine Goes.st (U' := T.setTop (mkF m 23 #[.val (.ref a1), .val (.long q2), .second, .val (.int p3), .val (.int (own_sh (k' + 1)))] [])) (fun t k => XS.ifNo X.here hx rfl (hb hby d3_20) rfl ((if0 _ _).trans (flt ((own_shf k' (by omega)).1 : ¬ ((own_sh (k' + 1)) < (0 : Int32)))).1) k) ?_
      refine Goes.st (U' := T.setTop (mkF m 24 #[.val (.ref a1), .val (.long q2), .second, .val (.int p3), .val (.int (own_sh (k' + 1)))] [(.ref a1)])) (fun t k => XS.aloadN X.here hx rfl (hb hby d3_23) rfl rfl k) ?_
      obtain ⟨T3, X3, e3, st3⟩ := getF X hx hZ hown (host := "") (Or.inl (hw _ (List.mem_of_getElem? (i := 11) rfl))) Via.refl eT F_bytes_a1 (g := (mkF m 24 #[.val (.ref a1), .val (.long q2), .second, .val (.int p3), .val (.int (own_sh (k' + 1)))] [(.ref a1)])) rfl rfl (hb hby d3_24)
      refine Goes.st (U' := T3.setTop (mkF m 27 #[.val (.ref a1), .val (.long q2), .second, .val (.int p3), .val (.int (own_sh (k' + 1)))] [(.ref arr)])) (fun t k => st3 t k) ?_
      refine Goes.st (U' := T3.setTop (mkF m 28 #[.val (.ref a1), .val (.long q2), .second, .val (.int p3), .val (.int (own_sh (k' + 1)))] [(.ref a1), (.ref arr)])) (fun t k => XS.aloadN X3.here hx rfl (hb hby d3_27) rfl rfl k) ?_
      refine Goes.st (U' := T3.setTop (mkF m 29 #[.val (.ref a1), .val (.long q2), .second, .val (.int p3), .val (.int (own_sh (k' + 1)))] [(.ref a1), (.ref a1), (.ref arr)])) (fun t k => XS.dup X3.here hx rfl (hb hby d3_28) rfl rfl k) ?_
      obtain ⟨T4, X4, e4, st4⟩ := getF X3 hx hZ hown (host := "") (Or.inl (hw _ (List.mem_of_getElem? (i := 18) rfl))) Via.refl e3 F_size_a1 (g := (mkF m 29 #[.val (.ref a1), .val (.long q2), .second, .val (.int p3), .val (.int (own_sh (k' + 1)))] [(.ref a1), (.ref a1), (.ref arr)])) rfl rfl (hb hby d3_29)
      refine Goes.st (U' := T4.setTop (mkF m 32 #[.val (.ref a1), .val (.long q2), .second, .val (.int p3), .val (.int (own_sh (k' + 1)))] [(.int (xs.length.toInt32)), (.ref a1), (.ref arr)])) (fun t k => st4 t k) ?_
      refine Goes.st (U' := T4.setTop (mkF m 33 #[.val (.ref a1), .val (.long q2), .second, .val (.int p3), .val (.int (own_sh (k' + 1)))] [(.int (xs.length.toInt32)), (.ref a1), (.int (xs.length.toInt32)), (.ref arr)])) (fun t k => XS.dupX1 X4.here hx rfl (hb hby d3_32) rfl rfl rfl k) ?_
      refine Goes.st (U' := T4.setTop (mkF m 34 #[.val (.ref a1), .val (.long q2), .second, .val (.int p3), .val (.int (own_sh (k' + 1)))] [(.int (1 : Int32)), (.int (xs.length.toInt32)), (.ref a1), (.int (xs.length.toInt32)), (.ref arr)])) (fun t k => XS.iconst X4.here hx rfl (hb hby d3_33) k) ?_
      refine Goes.st (U' := T4.setTop (mkF m 35 #[.val (.ref a1), .val (.long q2), .second, .val (.int p3), .val (.int (own_sh (k' + 1)))] [(.int ((xs.length.toInt32) + (1 : Int32))), (.ref a1), (.int (xs.length.toInt32)), (.ref arr)])) (fun t k => XS.iadd X4.here hx rfl (hb hby d3_34) rfl k) ?_
      obtain ⟨T5, h5, X5, e5, W5, st5⟩ := putF X4 hx hZ hown (host := "") (Or.inl (hw _ (List.mem_of_getElem? (i := 18) rfl))) Via.refl e4 F_size_a1 E_a1 (Or.inl (hw _ (List.mem_of_getElem? (i := 19) rfl))) (hw _ (List.mem_of_getElem? (i := 2) rfl)) (ty := .int) (by decide) rfl rfl (g := (mkF m 35 #[.val (.ref a1), .val (.long q2), .second, .val (.int p3), .val (.int (own_sh (k' + 1)))] [(.int ((xs.length.toInt32) + (1 : Int32))), (.ref a1), (.int (xs.length.toInt32)), (.ref arr)])) rfl rfl (hb hby d3_35)
      have Fw5 := F_size_a1.same W5
      have N5 := Fr.snoc X5 N g_a1
      have K_6 : Keep h0 h5 [a1, arr] := Kp.wr W5 (Or.inl (List.mem_of_getElem? (i := 0) rfl))
      refine Goes.st (U' := T5.setTop (mkF m 38 #[.val (.ref a1), .val (.long q2), .second, .val (.int p3), .val (.int (own_sh (k' + 1)))] [(.int (xs.length.toInt32)), (.ref arr)])) (fun t k => st5 t k) ?_
      refine Goes.st (U' := T5.setTop (mkF m 39 #[.val (.ref a1), .val (.long q2), .second, .val (.int p3), .val (.int (own_sh (k' + 1)))] [(.long q2), (.int (xs.length.toInt32)), (.ref arr)])) (fun t k => XS.lloadN X5.here hx rfl (hb hby d3_38) rfl k) ?_
      refine Goes.st (U' := T5.setTop (mkF m 41 #[.val (.ref a1), .val (.long q2), .second, .val (.int p3), .val (.int (own_sh (k' + 1)))] [(.int (own_sh (k' + 1))), (.long q2), (.int (xs.length.toInt32)), (.ref arr)])) (fun t k => XS.iload X5.here hx rfl (hb hby d3_39) rfl k) ?_
      refine Goes.st (U' := T5.setTop (mkF m 42 #[.val (.ref a1), .val (.long q2), .second, .val (.int p3), .val (.int (own_sh (k' + 1)))] [(.long ((q2.toUInt64 >>> ((own_sh (k' + 1)) &&& 0x3f).toInt64.toUInt64).toInt64)), (.int (xs.length.toInt32)), (.ref arr)])) (fun t k => XS.lushr X5.here hx rfl (hb hby d3_41) rfl k) ?_
      refine Goes.st (U' := T5.setTop (mkF m 43 #[.val (.ref a1), .val (.long q2), .second, .val (.int p3), .val (.int (own_sh (k' + 1)))] [(.int (((q2.toUInt64 >>> ((own_sh (k' + 1)) &&& 0x3f).toInt64.toUInt64).toInt64).toInt32)), (.int (xs.length.toInt32)), (.ref arr)])) (fun t k => XS.l2i X5.here hx rfl (hb hby d3_42) rfl k) ?_
      refine Goes.st (U' := T5.setTop (mkF m 44 #[.val (.ref a1), .val (.long q2), .second, .val (.int p3), .val (.int (own_sh (k' + 1)))] [(.int ((((q2.toUInt64 >>> ((own_sh (k' + 1)) &&& 0x3f).toInt64.toUInt64).toInt64).toInt32).toInt8.toInt32)), (.int (xs.length.toInt32)), (.ref arr)])) (fun t k => XS.i2b X5.here hx rfl (hb hby d3_43) rfl k) ?_
      have Vx7 := (V_arr.other W5 (Ne.symm ne_a1_arr))
      obtain ⟨cl7, Ar7, qa7, S7, Nn7, H7, G7⟩ := Vx7
      have hin7 : ¬ ((xs.length.toInt32) < 0 ∨ cl7.slots.size ≤ ((xs.length.toInt32)).toNatClampNeg) := inb_of S7 (own_lt64 _ (by omega))
      obtain ⟨T7, h7, X7, e7, W7, st7⟩ := stB X5 hx hZ e5 Ar7 (j := (xs.length.toInt32)) hin7 (g := (mkF m 44 #[.val (.ref a1), .val (.long q2), .second, .val (.int p3), .val (.int (own_sh (k' + 1)))] [(.int ((((q2.toUInt64 >>> ((own_sh (k' + 1)) &&& 0x3f).toInt64.toUInt64).toInt64).toInt32).toInt8.toInt32)), (.int (xs.length.toInt32)), (.ref arr)])) rfl rfl (hb hby d3_44)
      have V7 : Arv Z h7 arr k .byte (64 : Int32) ((xs ++ [own_by q2 (own_sh (k' + 1))]).map .int) (.int (0 : Int32)) := (by rw [List.map_append]; exact own_push Ar7 qa7 S7 Nn7 H7 G7 (fits_nar_byte _) W7 (by rw [List.length_map]; exact (own_nat _ (by omega)).2.1))
      have N7 := Fr.snoc X7 N5 g_arr
      have K_8 : Keep h0 h7 [a1, arr] := K_6.wr W7 (Or.inl (List.mem_of_getElem? (i := 1) rfl))
      refine Goes.st (U' := T7.setTop (mkF m 45 #[.val (.ref a1), .val (.long q2), .second, .val (.int p3), .val (.int (own_sh (k' + 1)))] [])) (fun t k => st7 t k) ?_
      refine Goes.st (U' := T7.setTop (mkF m 48 #[.val (.ref a1), .val (.long q2), .second, .val (.int p3), .val (.int ((own_sh (k' + 1)) + (-8 : Int32)))] [])) (fun t k => XS.iinc X7.here hx rfl (hb hby d3_45) rfl (l' := #[.val (.ref a1), .val (.long q2), .second, .val (.int p3), .val (.int ((own_sh (k' + 1)) + (-8 : Int32)))]) rfl k) ?_
      refine Goes.st (U' := T7.setTop (mkF m 18 #[.val (.ref a1), .val (.long q2), .second, .val (.int p3), .val (.int ((own_sh (k' + 1)) + (-8 : Int32)))] [])) (fun t k => XS.goto X7.here hx rfl (pc0 := 48) (pc' := 18) rfl (hb hby d3_48) (by decide) (by decide) k) ?_
      rw [(own_shf k' (by omega)).2]
      have Fs : Fld Z h7 a1 "com/example/compokey/compokey/keys/ByteOutput" "size" "I" (.int (xs ++ [(own_by q2 (own_sh (k' + 1)))]).length.toInt32) := by rw [List.length_append]; show Fld Z h7 a1 "com/example/compokey/compokey/keys/ByteOutput" "size" "I" (.int (xs.length + 1).toInt32); rw [(own_nat _ (by omega)).2.2.1]; exact (Fw5.other W7 (Or.inl ne_a1_arr))
      exact ih T7 h7 _ (xs ++ [(own_by q2 (own_sh (k' + 1)))]) (by rw [List.append_assoc]; exact hxs) X7 e7 N7 K_8 ⟨((E_a1.wr W5).wr W7), Fs, ((F_bytes_a1.other W5 (Or.inr (slot_ne (Or.inl (hw _ (List.mem_of_getElem? (i := 12) rfl))) (Or.inl (hw _ (List.mem_of_getElem? (i := 19) rfl))) (by decide) (t := (.array .byte)) (t' := .int) (by decide) (by decide)))).other W7 (Or.inl ne_a1_arr)), V7, ((E_arr.wr W5).wr W7), ne_a1_arr⟩
  rw [((by rw [hn]; exact own_sh0 n hn8) : ((p3 - (1 : Int32)) * (8 : Int32)) = (own_sh n))]
  exact loop n _ _ _ [] rfl X2 e2 N2 (Keep.refl h0 [a1, arr]) I
theorem d5_0 : decode prog_9_method_6_code 0 = .ok (.iload_n 1, 1) := by decide +kernel
theorem d5_1 : decode prog_9_method_6_code 1 = .ok (.istore_n 2, 1) := by decide +kernel
theorem d5_2 : decode prog_9_method_6_code 2 = .ok (.iload_n 2, 1) := by decide +kernel
theorem d5_3 : decode prog_9_method_6_code 3 = .ok (.aload_n 0, 1) := by decide +kernel
theorem d5_4 : decode prog_9_method_6_code 4 = .ok (.getfield 13, 3) := by decide +kernel
theorem d5_7 : decode prog_9_method_6_code 7 = .ok (.if_icmp .ge 24, 3) := by decide +kernel
theorem d5_10 : decode prog_9_method_6_code 10 = .ok (.aload_n 0, 1) := by decide +kernel
theorem d5_11 : decode prog_9_method_6_code 11 = .ok (.getfield 9, 3) := by decide +kernel
theorem d5_14 : decode prog_9_method_6_code 14 = .ok (.iload_n 2, 1) := by decide +kernel
theorem d5_15 : decode prog_9_method_6_code 15 = .ok (.aload_n 0, 1) := by decide +kernel
theorem d5_16 : decode prog_9_method_6_code 16 = .ok (.getfield 9, 3) := by decide +kernel
theorem d5_19 : decode prog_9_method_6_code 19 = .ok (.iload_n 2, 1) := by decide +kernel
theorem d5_20 : decode prog_9_method_6_code 20 = .ok (.baload, 1) := by decide +kernel
theorem d5_21 : decode prog_9_method_6_code 21 = .ok (.iconst (-1), 1) := by decide +kernel
theorem d5_22 : decode prog_9_method_6_code 22 = .ok (.ixor, 1) := by decide +kernel
theorem d5_23 : decode prog_9_method_6_code 23 = .ok (.i2b, 1) := by decide +kernel
theorem d5_24 : decode prog_9_method_6_code 24 = .ok (.bastore, 1) := by decide +kernel
theorem d5_25 : decode prog_9_method_6_code 25 = .ok (.iinc 2 1, 3) := by decide +kernel
theorem d5_28 : decode prog_9_method_6_code 28 = .ok (.goto (-26), 3) := by decide +kernel
theorem d5_31 : decode prog_9_method_6_code 31 = .ok (.return_, 1) := by decide +kernel
theorem ef_rm5 (m : MethodId) (a1 : Addr) (p2 : Int32) : entryFrame m #[(.ref a1), (.int p2)] 3 = mkF m 0 #[.val (.ref a1), .val (.int p2), .unset] [] := by first | (simp [entryFrame, mkF, argsToLocals, Value.category]; done) | rfl
def Q5 (Z : State) (a1 : Addr) (p2 : Int32) (arr : Addr) (k : ClassId) (ys : List Int32) (f : Nat) (h0 : Heap) (n0 : Nat) (v : Option Value) (h : Heap) (L : List Loc) : Prop := v = none ∧ Fr n0 L ∧ Keep h0 h [a1, arr] ∧ BO Z h a1 arr k (own_inv (ys.length - f) f ys)
set_option maxRecDepth 65536 in
set_option maxHeartbeats 40000000 in
theorem rm5 (l : Launch) (Z : State) (a0 : Array Value) (hw : ∀ d ∈ tables_1, d.before a0 Z = true) (ws : List Jvm.Cond) (a1 : Addr) (p2 : Int32) (arr : Addr) (k : ClassId) (ys : List Int32) (f : Nat) (h0 : Heap) (n0 : Nat) (Z0 : n0 ≤ h0.size) (I : BO Z h0 a1 arr k ys) (hys : ys.length ≤ 8) (hf : p2 = f.toInt32) (hf16 : f ≤ 15) (g_a1 : n0 ≤ a1) (g_arr : n0 ≤ arr) :
    MetFree l (⟨"com/example/compokey/compokey/keys/ByteOutput", "invertFrom", "(I)V"⟩ : MethodName) (head1 (Jvm.Cond.code (⟨"com/example/compokey/compokey/keys/ByteOutput", "invertFrom", "(I)V"⟩ : MethodName) prog_9_method_6_code 3 none :: ws) ({ frames := 0, cells := 0, slots := 0, locals := 0 } : Room)) (fun a U => a = #[(.ref a1), (.int p2)] ∧ Z.Warmed39 U.vm ∧ U.heap = h0) (fun _ _ _ _ _ => True) (fun _ U o U' => ∃ v L, o = .returned v ∧ Q5 Z a1 (f.toInt32) arr k ys f h0 n0 v U'.heap L ∧ FrameEnd U o U' L ({ frames := 0, cells := 0, slots := 0, locals := 0 } : Room).cells ({ frames := 0, cells := 0, slots := 0, locals := 0 } : Room).slots) := by
  refine MetFree.of_bodySF (plainFor_of_name pn_0) hisR ?_
  intro p e s m args below meth c s₁ Bd hml0 hP hK
  obtain ⟨rfl, hZ, hh⟩ := hP
  have hx := Bd.exec
  have hby := Bd.bytes
  have hml : c.maxLocals = 3 := hml0
  have hown : s.vm.findClass "com/example/compokey/compokey/keys/ByteOutput" = some m.cls := findClass_of_methodNamed Bd.named
  have hnm := (name_of_methodNamed Bd.named Bd.method).1
  have X0 : Stand p l e ({ frames := 0, cells := 0, slots := 0, locals := 0 } : Room) s m #[(.ref a1), (.int p2)] below meth c s₁ [] 0 0 := Stand.of_body Bd
  have e0 : s₁.heap = h0 := by rw [← hh, Bd.state]; rfl
  have N0 := Fr.nil n0
  show Goes p e s below (fun v h L => Q5 Z a1 (f.toInt32) arr k ys f h0 n0 v h L) ({ frames := 0, cells := 0, slots := 0, locals := 0 } : Room).cells ({ frames := 0, cells := 0, slots := 0, locals := 0 } : Room).slots (s₁.setTop (entryFrame m #[(.ref a1), (.int p2)] 3))
  refine Goes.st (U' := s₁.setTop (mkF m 0 #[.val (.ref a1), .val (.int p2), .unset] [])) (fun t k => castTop (ef_rm5 m a1 p2) k) ?_
  refine Goes.st (U' := s₁.setTop (mkF m 1 #[.val (.ref a1), .val (.int p2), .unset] [(.int p2)])) (fun t k => XS.iloadN X0.here hx rfl (hb hby d5_0) rfl k) ?_
  refine Goes.st (U' := s₁.setTop (mkF m 2 #[.val (.ref a1), .val (.int p2), .val (.int p2)] [])) (fun t k => XS.istoreN X0.here hx rfl (hb hby d5_1) rfl (l' := #[.val (.ref a1), .val (.int p2), .val (.int p2)]) rfl k) ?_
  subst hf
  have loop : ∀ (k' i : Nat) (T : State) (h : Heap) (locs : List Loc) (xs : List Int32), xs.length = ys.length → (i + k' = ys.length ∨ (k' = 0 ∧ ys.length ≤ i ∧ i ≤ 15)) → own_inv k' i xs = own_inv (ys.length - f) f ys → Stand p l e ({ frames := 0, cells := 0, slots := 0, locals := 0 } : Room) s m #[(.ref a1), (.int (f.toInt32))] below meth c T locs 0 0 → T.heap = h → Fr n0 locs → Keep h0 h [a1, arr] → BO Z h a1 arr k xs → Goes p e s below (fun v h L => Q5 Z a1 (f.toInt32) arr k ys f h0 n0 v h L) (({ frames := 0, cells := 0, slots := 0, locals := 0 } : Room)).cells (({ frames := 0, cells := 0, slots := 0, locals := 0 } : Room)).slots (T.setTop (mkF m 2 #[.val (.ref a1), .val (.int (f.toInt32)), .val (.int (i.toInt32))] [])) := by
    intro k'
    induction k' with
    | zero =>
      intro i T h locs xs hxl hik hxs X eT N Kp Ib
      obtain ⟨E_a1, F_size_a1, F_bytes_a1, V_arr, E_arr, ne_a1_arr⟩ := Ib
      refine Goes.st (U' := T.setTop (mkF m 3 #[.val (.ref a1), .val (.int (f.toInt32)), .val (.int (i.toInt32))] [(.int (i.toInt32))])) (fun t k => XS.iloadN X.here hx rfl (hb hby d5_2) rfl k) ?_
      refine Goes.st (U' := T.setTop (mkF m 4 #[.val (.ref a1), .val (.int (f.toInt32)), .val (.int (i.toInt32))] [(.ref a1), (.int (i.toInt32))])) (fun t k => XS.aloadN X.here hx rfl (hb hby d5_3) rfl rfl k) ?_
      obtain ⟨T1, X1, e1, st1⟩ := getF X hx hZ hown (host := "") (Or.inl (hw _ (List.mem_of_getElem? (i := 18) rfl))) Via.refl eT F_size_a1 (g := (mkF m 4 #[.val (.ref a1), .val (.int (f.toInt32)), .val (.int (i.toInt32))] [(.ref a1), (.int (i.toInt32))])) rfl rfl (hb hby d5_4)
      refine Goes.st (U' := T1.setTop (mkF m 7 #[.val (.ref a1), .val (.int (f.toInt32)), .val (.int (i.toInt32))] [(.int (xs.length.toInt32)), (.int (i.toInt32))])) (fun t k => st1 t k) ?_
      refine Goes.st (U' := T1.setTop (mkF m 31 #[.val (.ref a1), .val (.int (f.toInt32)), .val (.int (i.toInt32))] [])) (fun t k => XS.icmpYes X1.here hx rfl (pc0 := 7) (pc' := 31) rfl (hb hby d5_7) rfl (flt ((fun q => by rw [own_cmp _ _ (by omega) (by omega)] at q; omega) : ¬ ((i.toInt32) < (xs.length.toInt32)))).2.1 (by decide) (by decide) k) ?_
      refine Goes.retV X1 hx (BodyLoose.notSynchronized Bd) Bd.returns (hb hby d5_31) (by decide) (by decide) ?_
      show Q5 Z a1 (f.toInt32) arr k ys f h0 n0 _ T1.heap _
      rw [e1]
      exact ⟨rfl, N, Kp, hxs ▸ ⟨E_a1, F_size_a1, F_bytes_a1, V_arr, E_arr, ne_a1_arr⟩⟩
    | succ k' ih =>
      intro i T h locs xs hxl hik hxs X eT N Kp Ib
      obtain ⟨E_a1, F_size_a1, F_bytes_a1, V_arr, E_arr, ne_a1_arr⟩ := Ib
      refine Goes.st (U' := T.setTop (mkF m 3 #[.val (.ref a1), .val (.int (f.toInt32)), .val (.int (i.toInt32))] [(.int (i.toInt32))])) (fun t k => XS.iloadN X.here hx rfl (hb hby d5_2) rfl k) ?_
      refine Goes.st (U' := T.setTop (mkF m 4 #[.val (.ref a1), .val (.int (f.toInt32)), .val (.int (i.toInt32))] [(.ref a1), (.int (i.toInt32))])) (fun t k => XS.aloadN X.here hx rfl (hb hby d5_3) rfl rfl k) ?_
      obtain ⟨T2, X2, e2, st2⟩ := getF X hx hZ hown (host := "") (Or.inl (hw _ (List.mem_of_getElem? (i := 18) rfl))) Via.refl eT F_size_a1 (g := (mkF m 4 #[.val (.ref a1), .val (.int (f.toInt32)), .val (.int (i.toInt32))] [(.ref a1), (.int (i.toInt32))])) rfl rfl (hb hby d5_4)
      refine Goes.st (U' := T2.setTop (mkF m 7 #[.val (.ref a1), .val (.int (f.toInt32)), .val (.int (i.toInt32))] [(.int (xs.length.toInt32)), (.int (i.toInt32))])) (fun t k => st2 t k) ?_
      refine Goes.st (U' := T2.setTop (mkF m 10 #[.val (.ref a1), .val (.int (f.toInt32)), .val (.int (i.toInt32))] [])) (fun t k => XS.icmpNo X2.here hx rfl (hb hby d5_7) rfl (tlt (((own_cmp _ _ (by omega) (by omega)).mpr (by omega)) : (i.toInt32) < (xs.length.toInt32))).2.1 k) ?_
      refine Goes.st (U' := T2.setTop (mkF m 11 #[.val (.ref a1), .val (.int (f.toInt32)), .val (.int (i.toInt32))] [(.ref a1)])) (fun t k => XS.aloadN X2.here hx rfl (hb hby d5_10) rfl rfl k) ?_
      obtain ⟨T3, X3, e3, st3⟩ := getF X2 hx hZ hown (host := "") (Or.inl (hw _ (List.mem_of_getElem? (i := 11) rfl))) Via.refl e2 F_bytes_a1 (g := (mkF m 11 #[.val (.ref a1), .val (.int (f.toInt32)), .val (.int (i.toInt32))] [(.ref a1)])) rfl rfl (hb hby d5_11)
      refine Goes.st (U' := T3.setTop (mkF m 14 #[.val (.ref a1), .val (.int (f.toInt32)), .val (.int (i.toInt32))] [(.ref arr)])) (fun t k => st3 t k) ?_
      refine Goes.st (U' := T3.setTop (mkF m 15 #[.val (.ref a1), .val (.int (f.toInt32)), .val (.int (i.toInt32))] [(.int (i.toInt32)), (.ref arr)])) (fun t k => XS.iloadN X3.here hx rfl (hb hby d5_14) rfl k) ?_
      refine Goes.st (U' := T3.setTop (mkF m 16 #[.val (.ref a1), .val (.int (f.toInt32)), .val (.int (i.toInt32))] [(.ref a1), (.int (i.toInt32)), (.ref arr)])) (fun t k => XS.aloadN X3.here hx rfl (hb hby d5_15) rfl rfl k) ?_
      obtain ⟨T4, X4, e4, st4⟩ := getF X3 hx hZ hown (host := "") (Or.inl (hw _ (List.mem_of_getElem? (i := 11) rfl))) Via.refl e3 F_bytes_a1 (g := (mkF m 16 #[.val (.ref a1), .val (.int (f.toInt32)), .val (.int (i.toInt32))] [(.ref a1), (.int (i.toInt32)), (.ref arr)])) rfl rfl (hb hby d5_16)
      refine Goes.st (U' := T4.setTop (mkF m 19 #[.val (.ref a1), .val (.int (f.toInt32)), .val (.int (i.toInt32))] [(.ref arr), (.int (i.toInt32)), (.ref arr)])) (fun t k => st4 t k) ?_
      refine Goes.st (U' := T4.setTop (mkF m 20 #[.val (.ref a1), .val (.int (f.toInt32)), .val (.int (i.toInt32))] [(.int (i.toInt32)), (.ref arr), (.int (i.toInt32)), (.ref arr)])) (fun t k => XS.iloadN X4.here hx rfl (hb hby d5_19) rfl k) ?_
      have Vx5 := V_arr
      obtain ⟨cl5, Ar5, qa5, S5, Nn5, H5, G5⟩ := Vx5
      have hin5 : ¬ ((i.toInt32) < 0 ∨ cl5.slots.size ≤ ((i.toInt32)).toNatClampNeg) := inb_of S5 (own_lt64 _ (by omega))
      have hat5 : cl5.slots[((i.toInt32)).toNatClampNeg]? = some (.int (xs.getD i 0)) := H5.at hin5 (by rw [(own_nat _ (by omega)).2.1]; exact own_getD _ _)
      refine Goes.st (U' := T4.setTop (mkF m 21 #[.val (.ref a1), .val (.int (f.toInt32)), .val (.int (i.toInt32))] [(.int (xs.getD i 0)), (.int (i.toInt32)), (.ref arr)])) (fun t k => X4.baloadBytes hx (j := (i.toInt32)) (v := (.int (xs.getD i 0))) (by rw [e4]; exact Ar5.1) (State.isArrayOf_alike hZ.alike Ar5.2.1) Ar5.2.2 hin5 hat5 (g := (mkF m 20 #[.val (.ref a1), .val (.int (f.toInt32)), .val (.int (i.toInt32))] [(.int (i.toInt32)), (.ref arr), (.int (i.toInt32)), (.ref arr)])) rfl rfl (hb hby d5_20) t k) ?_
      refine Goes.st (U' := T4.setTop (mkF m 22 #[.val (.ref a1), .val (.int (f.toInt32)), .val (.int (i.toInt32))] [(.int (-1 : Int32)), (.int (xs.getD i 0)), (.int (i.toInt32)), (.ref arr)])) (fun t k => XS.iconst X4.here hx rfl (hb hby d5_21) k) ?_
      refine Goes.st (U' := T4.setTop (mkF m 23 #[.val (.ref a1), .val (.int (f.toInt32)), .val (.int (i.toInt32))] [(.int ((xs.getD i 0) ^^^ (-1 : Int32))), (.int (i.toInt32)), (.ref arr)])) (fun t k => XS.ixor X4.here hx rfl (hb hby d5_22) rfl k) ?_
      refine Goes.st (U' := T4.setTop (mkF m 24 #[.val (.ref a1), .val (.int (f.toInt32)), .val (.int (i.toInt32))] [(.int (((xs.getD i 0) ^^^ (-1 : Int32)).toInt8.toInt32)), (.int (i.toInt32)), (.ref arr)])) (fun t k => XS.i2b X4.here hx rfl (hb hby d5_23) rfl k) ?_
      have Vx6 := V_arr
      obtain ⟨cl6, Ar6, qa6, S6, Nn6, H6, G6⟩ := Vx6
      have hin6 : ¬ ((i.toInt32) < 0 ∨ cl6.slots.size ≤ ((i.toInt32)).toNatClampNeg) := inb_of S6 (own_lt64 _ (by omega))
      obtain ⟨T6, h6, X6, e6, W6, st6⟩ := stB X4 hx hZ e4 Ar6 (j := (i.toInt32)) hin6 (g := (mkF m 24 #[.val (.ref a1), .val (.int (f.toInt32)), .val (.int (i.toInt32))] [(.int (((xs.getD i 0) ^^^ (-1 : Int32)).toInt8.toInt32)), (.int (i.toInt32)), (.ref arr)])) rfl rfl (hb hby d5_24)
      have V6 : Arv Z h6 arr k .byte (64 : Int32) ((xs.set i (own_neg (xs.getD i 0))).map .int) (.int (0 : Int32)) := (by rw [← own_setm]; exact Arv.set Ar6 qa6 S6 Nn6 H6 G6 (fits_nar_byte _) W6 i (own_nat _ (by omega)).2.1 (by rw [List.length_map]; omega))
      have N6 := Fr.snoc X6 N g_arr
      have K_7 : Keep h0 h6 [a1, arr] := Kp.wr W6 (Or.inl (List.mem_of_getElem? (i := 1) rfl))
      refine Goes.st (U' := T6.setTop (mkF m 25 #[.val (.ref a1), .val (.int (f.toInt32)), .val (.int (i.toInt32))] [])) (fun t k => st6 t k) ?_
      refine Goes.st (U' := T6.setTop (mkF m 28 #[.val (.ref a1), .val (.int (f.toInt32)), .val (.int ((i.toInt32) + (1 : Int32)))] [])) (fun t k => XS.iinc X6.here hx rfl (hb hby d5_25) rfl (l' := #[.val (.ref a1), .val (.int (f.toInt32)), .val (.int ((i.toInt32) + (1 : Int32)))]) rfl k) ?_
      refine Goes.st (U' := T6.setTop (mkF m 2 #[.val (.ref a1), .val (.int (f.toInt32)), .val (.int ((i.toInt32) + (1 : Int32)))] [])) (fun t k => XS.goto X6.here hx rfl (pc0 := 28) (pc' := 2) rfl (hb hby d5_28) (by decide) (by decide) k) ?_
      rw [← (own_nat i (by omega)).2.2.1]
      have Fs : Fld Z h6 a1 "com/example/compokey/compokey/keys/ByteOutput" "size" "I" (.int (xs.set i (own_neg (xs.getD i 0))).length.toInt32) := by rw [List.length_set]; exact (F_size_a1.other W6 (Or.inl ne_a1_arr))
      exact ih (i + 1) T6 h6 _ (xs.set i (own_neg (xs.getD i 0))) (by rw [List.length_set]; exact hxl) (by omega) hxs X6 e6 N6 K_7 ⟨(E_a1.wr W6), Fs, (F_bytes_a1.other W6 (Or.inl ne_a1_arr)), V6, (E_arr.wr W6), ne_a1_arr⟩
  exact loop (ys.length - f) f _ _ _ ys rfl (by omega) rfl X0 e0 N0 (Keep.refl h0 [a1, arr]) I
theorem d6_0 : decode prog_9_method_5_code 0 = .ok (.aload_n 0, 1) := by decide +kernel
theorem d6_1 : decode prog_9_method_5_code 1 = .ok (.getfield 13, 3) := by decide +kernel
theorem d6_4 : decode prog_9_method_5_code 4 = .ok (.ireturn, 1) := by decide +kernel
theorem ef_rm6 (m : MethodId) (a1 : Addr) : entryFrame m #[(.ref a1)] 1 = mkF m 0 #[.val (.ref a1)] [] := by first | (simp [entryFrame, mkF, argsToLocals, Value.category]; done) | rfl
def Q6 (Z : State) (a1 : Addr) (arr : Addr) (k : ClassId) (xs : List Int32) (h0 : Heap) (n0 : Nat) (v : Option Value) (h : Heap) (L : List Loc) : Prop := v = some (.int xs.length.toInt32) ∧ Fr n0 L ∧ h = h0
set_option maxRecDepth 65536 in
set_option maxHeartbeats 40000000 in
theorem rm6 (l : Launch) (Z : State) (a0 : Array Value) (hw : ∀ d ∈ tables_1, d.before a0 Z = true) (ws : List Jvm.Cond) (a1 : Addr) (arr : Addr) (k : ClassId) (xs : List Int32) (h0 : Heap) (n0 : Nat) (Z0 : n0 ≤ h0.size) (I : BO Z h0 a1 arr k xs) :
    MetFree l (⟨"com/example/compokey/compokey/keys/ByteOutput", "size", "()I"⟩ : MethodName) (head1 (Jvm.Cond.code (⟨"com/example/compokey/compokey/keys/ByteOutput", "size", "()I"⟩ : MethodName) prog_9_method_5_code 1 (some .int) :: ws) ({ frames := 0, cells := 0, slots := 0, locals := 0 } : Room)) (fun a U => a = #[(.ref a1)] ∧ Z.Warmed39 U.vm ∧ U.heap = h0) (fun _ _ _ _ _ => True) (fun _ U o U' => ∃ v L, o = .returned v ∧ Q6 Z a1 arr k xs h0 n0 v U'.heap L ∧ FrameEnd U o U' L ({ frames := 0, cells := 0, slots := 0, locals := 0 } : Room).cells ({ frames := 0, cells := 0, slots := 0, locals := 0 } : Room).slots) := by
  refine MetFree.of_bodySF (plainFor_of_name pn_0) hisR ?_
  intro p e s m args below meth c s₁ Bd hml0 hP hK
  obtain ⟨rfl, hZ, hh⟩ := hP
  have hx := Bd.exec
  have hby := Bd.bytes
  have hml : c.maxLocals = 1 := hml0
  have hown : s.vm.findClass "com/example/compokey/compokey/keys/ByteOutput" = some m.cls := findClass_of_methodNamed Bd.named
  have hnm := (name_of_methodNamed Bd.named Bd.method).1
  have X0 : Stand p l e ({ frames := 0, cells := 0, slots := 0, locals := 0 } : Room) s m #[(.ref a1)] below meth c s₁ [] 0 0 := Stand.of_body Bd
  have e0 : s₁.heap = h0 := by rw [← hh, Bd.state]; rfl
  have N0 := Fr.nil n0
  show Goes p e s below (fun v h L => Q6 Z a1 arr k xs h0 n0 v h L) ({ frames := 0, cells := 0, slots := 0, locals := 0 } : Room).cells ({ frames := 0, cells := 0, slots := 0, locals := 0 } : Room).slots (s₁.setTop (entryFrame m #[(.ref a1)] 1))
  refine Goes.st (U' := s₁.setTop (mkF m 0 #[.val (.ref a1)] [])) (fun t k => castTop (ef_rm6 m a1) k) ?_
  obtain ⟨E_a1, F_size_a1, F_bytes_a1, V_arr, E_arr, ne_a1_arr⟩ := I
  refine Goes.st (U' := s₁.setTop (mkF m 1 #[.val (.ref a1)] [(.ref a1)])) (fun t k => XS.aloadN X0.here hx rfl (hb hby d6_0) rfl rfl k) ?_
  obtain ⟨T1, X1, e1, st1⟩ := getF X0 hx hZ hown (host := "") (Or.inl (hw _ (List.mem_of_getElem? (i := 18) rfl))) Via.refl e0 F_size_a1 (g := (mkF m 1 #[.val (.ref a1)] [(.ref a1)])) rfl rfl (hb hby d6_1)
  refine Goes.st (U' := T1.setTop (mkF m 4 #[.val (.ref a1)] [(.int (xs.length.toInt32))])) (fun t k => st1 t k) ?_
  refine Goes.retI X1 hx (BodyLoose.notSynchronized Bd) Bd.returns (hb hby d6_4) (by decide) (by decide) ?_
  show Q6 Z a1 arr k xs h0 n0 _ T1.heap _
  rw [e1]
  exact ⟨rfl, N0, rfl⟩
theorem d9_0 : decode jdk_29_method_69_code 0 = .ok (.iload_n 0, 1) := by decide +kernel
theorem d9_1 : decode jdk_29_method_69_code 1 = .ok (.iload_n 1, 1) := by decide +kernel
theorem d9_2 : decode jdk_29_method_69_code 2 = .ok (.if_icmp .gt 7, 3) := by decide +kernel
theorem d9_5 : decode jdk_29_method_69_code 5 = .ok (.iload_n 0, 1) := by decide +kernel
theorem d9_6 : decode jdk_29_method_69_code 6 = .ok (.goto 4, 3) := by decide +kernel
theorem d9_9 : decode jdk_29_method_69_code 9 = .ok (.iload_n 1, 1) := by decide +kernel
theorem d9_10 : decode jdk_29_method_69_code 10 = .ok (.ireturn, 1) := by decide +kernel
theorem ef_rm9 (m : MethodId) (p1 : Int32) (p2 : Int32) : entryFrame m #[(.int p1), (.int p2)] 2 = mkF m 0 #[.val (.int p1), .val (.int p2)] [] := by first | (simp [entryFrame, mkF, argsToLocals, Value.category]; done) | rfl
def fnmin (p1 : Int32) (p2 : Int32) : Int32 := (if p2 < p1 then p2 else p1)
def Q9 (Z : State) (p1 : Int32) (p2 : Int32) (h0 : Heap) (n0 : Nat) (v : Option Value) (h : Heap) (L : List Loc) : Prop := v = some (.int (fnmin p1 p2)) ∧ Fr n0 L ∧ h = h0
set_option maxRecDepth 65536 in
set_option maxHeartbeats 40000000 in
theorem rm9 (l : Launch) (Z : State) (a0 : Array Value) (hw : ∀ d ∈ tables_1, d.before a0 Z = true) (ws : List Jvm.Cond) (p1 : Int32) (p2 : Int32) (h0 : Heap) (n0 : Nat) (Z0 : n0 ≤ h0.size) :
    MetFree l (⟨"java/lang/Math", "min", "(II)I"⟩ : MethodName) (head1 (Jvm.Cond.code (⟨"java/lang/Math", "min", "(II)I"⟩ : MethodName) jdk_29_method_69_code 2 (some .int) :: ws) ({ frames := 0, cells := 0, slots := 0, locals := 0 } : Room)) (fun a U => a = #[(.int p1), (.int p2)] ∧ Z.Warmed39 U.vm ∧ U.heap = h0) (fun _ _ _ _ _ => True) (fun _ U o U' => ∃ v L, o = .returned v ∧ Q9 Z p1 p2 h0 n0 v U'.heap L ∧ FrameEnd U o U' L ({ frames := 0, cells := 0, slots := 0, locals := 0 } : Room).cells ({ frames := 0, cells := 0, slots := 0, locals := 0 } : Room).slots) := by
  refine MetFree.of_bodySF (Jvm.Free.JP.mathPlain rfl (by decide +kernel)) hisR ?_
  intro p e s m args below meth c s₁ Bd hml0 hP hK
  obtain ⟨rfl, hZ, hh⟩ := hP
  have hx := Bd.exec
  have hby := Bd.bytes
  have hml : c.maxLocals = 2 := hml0
  have hown : s.vm.findClass "java/lang/Math" = some m.cls := findClass_of_methodNamed Bd.named
  have hnm := (name_of_methodNamed Bd.named Bd.method).1
  have X0 : Stand p l e ({ frames := 0, cells := 0, slots := 0, locals := 0 } : Room) s m #[(.int p1), (.int p2)] below meth c s₁ [] 0 0 := Stand.of_body Bd
  have e0 : s₁.heap = h0 := by rw [← hh, Bd.state]; rfl
  have N0 := Fr.nil n0
  show Goes p e s below (fun v h L => Q9 Z p1 p2 h0 n0 v h L) ({ frames := 0, cells := 0, slots := 0, locals := 0 } : Room).cells ({ frames := 0, cells := 0, slots := 0, locals := 0 } : Room).slots (s₁.setTop (entryFrame m #[(.int p1), (.int p2)] 2))
  refine Goes.st (U' := s₁.setTop (mkF m 0 #[.val (.int p1), .val (.int p2)] [])) (fun t k => castTop (ef_rm9 m p1 p2) k) ?_
  refine Goes.st (U' := s₁.setTop (mkF m 1 #[.val (.int p1), .val (.int p2)] [(.int p1)])) (fun t k => XS.iloadN X0.here hx rfl (hb hby d9_0) rfl k) ?_
  refine Goes.st (U' := s₁.setTop (mkF m 2 #[.val (.int p1), .val (.int p2)] [(.int p2), (.int p1)])) (fun t k => XS.iloadN X0.here hx rfl (hb hby d9_1) rfl k) ?_
  rcases Decidable.em (p2 < p1) with hc2 | hc2
  · refine Goes.st (U' := s₁.setTop (mkF m 9 #[.val (.int p1), .val (.int p2)] [])) (fun t k => XS.icmpYes X0.here hx rfl (pc0 := 2) (pc' := 9) rfl (hb hby d9_2) rfl (tlt hc2).2.2.1 (by decide) (by decide) k) ?_
    refine Goes.st (U' := s₁.setTop (mkF m 10 #[.val (.int p1), .val (.int p2)] [(.int p2)])) (fun t k => XS.iloadN X0.here hx rfl (hb hby d9_9) rfl k) ?_
    refine Goes.retI X0 hx (BodyLoose.notSynchronized Bd) Bd.returns (hb hby d9_10) (by decide) (by decide) ?_
    show Q9 Z p1 p2 h0 n0 _ s₁.heap _
    rw [e0]
    exact ⟨(congrArg some (congrArg _ (by unfold fnmin; rw [if_pos hc2]))), N0, rfl⟩
  · refine Goes.st (U' := s₁.setTop (mkF m 5 #[.val (.int p1), .val (.int p2)] [])) (fun t k => XS.icmpNo X0.here hx rfl (hb hby d9_2) rfl (flt hc2).2.2.1 k) ?_
    refine Goes.st (U' := s₁.setTop (mkF m 6 #[.val (.int p1), .val (.int p2)] [(.int p1)])) (fun t k => XS.iloadN X0.here hx rfl (hb hby d9_5) rfl k) ?_
    refine Goes.st (U' := s₁.setTop (mkF m 10 #[.val (.int p1), .val (.int p2)] [(.int p1)])) (fun t k => XS.goto X0.here hx rfl (pc0 := 6) (pc' := 10) rfl (hb hby d9_6) (by decide) (by decide) k) ?_
    refine Goes.retI X0 hx (BodyLoose.notSynchronized Bd) Bd.returns (hb hby d9_10) (by decide) (by decide) ?_
    show Q9 Z p1 p2 h0 n0 _ s₁.heap _
    rw [e0]
    exact ⟨(congrArg some (congrArg _ (by unfold fnmin; rw [if_neg hc2]))), N0, rfl⟩
theorem own_min (y : Int32) (h : y < (64 : Int32)) : fnmin (64 : Int32) y = y := by unfold fnmin; rw [if_pos h]
theorem own_copy (vs vd : List Value) (dv : Value) (n : Nat) (h1 : vs.length = n) (h2 : vd.length = n) : ∀ i, vs.getD i dv = (vd.take (0 : Int32).toNatClampNeg ++ (List.range n).map (fun i => vs.getD ((0 : Int32).toNatClampNeg + i) dv) ++ vd.drop ((0 : Int32).toNatClampNeg + n)).getD i dv := by
  intro i
  have e : (0 : Int32).toNatClampNeg = 0 := rfl
  rw [e, Nat.zero_add, List.take_zero, List.nil_append, ← h2, List.drop_length, List.append_nil]
  simp only [List.getD_eq_getElem?_getD, Nat.zero_add]
  by_cases h : i < vd.length
  · simp [h]
  · rw [List.getElem?_eq_none (by omega), List.getElem?_eq_none (by simp; omega)]
theorem d8_0 : decode jdk_65_method_121_code 0 = .ok (.iload_n 1, 1) := by decide +kernel
theorem d8_1 : decode jdk_65_method_121_code 1 = .ok (.aload_n 0, 1) := by decide +kernel
theorem d8_2 : decode jdk_65_method_121_code 2 = .ok (.arraylength, 1) := by decide +kernel
theorem d8_3 : decode jdk_65_method_121_code 3 = .ok (.if_icmp .ne 11, 3) := by decide +kernel
theorem d8_14 : decode jdk_65_method_121_code 14 = .ok (.iload_n 1, 1) := by decide +kernel
theorem d8_15 : decode jdk_65_method_121_code 15 = .ok (.newarray .byte, 2) := by decide +kernel
theorem d8_17 : decode jdk_65_method_121_code 17 = .ok (.astore_n 2, 1) := by decide +kernel
theorem d8_18 : decode jdk_65_method_121_code 18 = .ok (.aload_n 0, 1) := by decide +kernel
theorem d8_19 : decode jdk_65_method_121_code 19 = .ok (.iconst 0, 1) := by decide +kernel
theorem d8_20 : decode jdk_65_method_121_code 20 = .ok (.aload_n 2, 1) := by decide +kernel
theorem d8_21 : decode jdk_65_method_121_code 21 = .ok (.iconst 0, 1) := by decide +kernel
theorem d8_22 : decode jdk_65_method_121_code 22 = .ok (.aload_n 0, 1) := by decide +kernel
theorem d8_23 : decode jdk_65_method_121_code 23 = .ok (.arraylength, 1) := by decide +kernel
theorem d8_24 : decode jdk_65_method_121_code 24 = .ok (.iload_n 1, 1) := by decide +kernel
theorem d8_25 : decode jdk_65_method_121_code 25 = .ok (.invokestatic 304, 3) := by decide +kernel
theorem d8_28 : decode jdk_65_method_121_code 28 = .ok (.invokestatic 150, 3) := by decide +kernel
theorem d8_31 : decode jdk_65_method_121_code 31 = .ok (.aload_n 2, 1) := by decide +kernel
theorem d8_32 : decode jdk_65_method_121_code 32 = .ok (.areturn, 1) := by decide +kernel
theorem pd_1 : parseMethodDescriptor "(II)I" = some ⟨[.int, .int], some .int⟩ := by decide +kernel
theorem pn_1 : plainName "java/util/Arrays" = true := by first | (simp [plainName, overriddenIn]; done) | decide +kernel
theorem ef_rm8 (m : MethodId) (a1 : Addr) (p2 : Int32) : entryFrame m #[(.ref a1), (.int p2)] 3 = mkF m 0 #[.val (.ref a1), .val (.int p2), .unset] [] := by first | (simp [entryFrame, mkF, argsToLocals, Value.category]; done) | rfl
def Q8 (Z : State) (a1 : Addr) (p2 : Int32) (k : ClassId) (vs : List Value) (n : Nat) (h0 : Heap) (n0 : Nat) (v : Option Value) (h : Heap) (L : List Loc) : Prop := ∃ b k', v = some (.ref b) ∧ Fr n0 L ∧ Keep h0 h [] ∧ Arv Z h b k' .byte p2 vs (.int (0 : Int32)) ∧ Exa Z h b "[B" ∧ n0 ≤ b ∧ h0.size ≤ b
set_option maxRecDepth 65536 in
set_option maxHeartbeats 40000000 in
theorem rm8 (l : Launch) (Z : State) (a0 : Array Value) (hw : ∀ d ∈ tables_1, d.before a0 Z = true) (ws : List Jvm.Cond) (a1 : Addr) (p2 : Int32) (k : ClassId) (vs : List Value) (n : Nat) (h0 : Heap) (n0 : Nat) (Z0 : n0 ≤ h0.size) (V_a1 : Arv Z h0 a1 k .byte (64 : Int32) vs (.int (0 : Int32))) (hn8 : n ≤ 8) (hn : p2 = n.toInt32) (hvs : vs.length = n) :
    MetFree l (⟨"java/util/Arrays", "copyOf", "([BI)[B"⟩ : MethodName) (head1 (Jvm.Cond.code (⟨"java/util/Arrays", "copyOf", "([BI)[B"⟩ : MethodName) jdk_65_method_121_code 3 (some (.array .byte)) :: ws) ({ frames := 1, cells := 1, slots := 8, locals := 18 } : Room)) (fun a U => a = #[(.ref a1), (.int p2)] ∧ Z.Warmed39 U.vm ∧ U.heap = h0) (fun _ _ _ _ _ => True) (fun _ U o U' => ∃ v L, o = .returned v ∧ Q8 Z a1 p2 k vs n h0 n0 v U'.heap L ∧ FrameEnd U o U' L ({ frames := 1, cells := 1, slots := 8, locals := 18 } : Room).cells ({ frames := 1, cells := 1, slots := 8, locals := 18 } : Room).slots) := by
  refine MetFree.of_bodySF (plainFor_of_name pn_1) hisR ?_
  intro p e s m args below meth c s₁ Bd hml0 hP hK
  obtain ⟨rfl, hZ, hh⟩ := hP
  have hx := Bd.exec
  have hby := Bd.bytes
  have hml : c.maxLocals = 3 := hml0
  have hown : s.vm.findClass "java/util/Arrays" = some m.cls := findClass_of_methodNamed Bd.named
  have hnm := (name_of_methodNamed Bd.named Bd.method).1
  have X0 : Stand p l e ({ frames := 1, cells := 1, slots := 8, locals := 18 } : Room) s m #[(.ref a1), (.int p2)] below meth c s₁ [] 0 0 := Stand.of_body Bd
  have e0 : s₁.heap = h0 := by rw [← hh, Bd.state]; rfl
  have N0 := Fr.nil n0
  show Goes p e s below (fun v h L => Q8 Z a1 p2 k vs n h0 n0 v h L) ({ frames := 1, cells := 1, slots := 8, locals := 18 } : Room).cells ({ frames := 1, cells := 1, slots := 8, locals := 18 } : Room).slots (s₁.setTop (entryFrame m #[(.ref a1), (.int p2)] 3))
  refine Goes.st (U' := s₁.setTop (mkF m 0 #[.val (.ref a1), .val (.int p2), .unset] [])) (fun t k => castTop (ef_rm8 m a1 p2) k) ?_
  refine Goes.st (U' := s₁.setTop (mkF m 1 #[.val (.ref a1), .val (.int p2), .unset] [(.int p2)])) (fun t k => XS.iloadN X0.here hx rfl (hb hby d8_0) rfl k) ?_
  refine Goes.st (U' := s₁.setTop (mkF m 2 #[.val (.ref a1), .val (.int p2), .unset] [(.ref a1), (.int p2)])) (fun t k => XS.aloadN X0.here hx rfl (hb hby d8_1) rfl rfl k) ?_
  have Vx1 := V_a1
  obtain ⟨cl1, Ar1, -, S1, Nn1, -, -⟩ := Vx1
  refine Goes.st (U' := s₁.setTop (mkF m 3 #[.val (.ref a1), .val (.int p2), .unset] [(.int (64 : Int32)), (.int p2)])) (fun t k => (X0.arraylength hx (by rw [e0]; exact Ar1.1) (State.isArrayOf_alike hZ.alike Ar1.2.1) (g := (mkF m 2 #[.val (.ref a1), .val (.int p2), .unset] [(.ref a1), (.int p2)])) rfl rfl (hb hby d8_2) t (by rw [len_of S1 Nn1]; exact k))) ?_
  refine Goes.st (U' := s₁.setTop (mkF m 14 #[.val (.ref a1), .val (.int p2), .unset] [])) (fun t k => XS.icmpYes X0.here hx rfl (pc0 := 3) (pc' := 14) rfl (hb hby d8_3) rfl (feq ((by rw [hn]; exact (own_nat _ (by omega)).2.2.2.2.1) : ¬ (p2 = (64 : Int32)))).2 (by decide) (by decide) k) ?_
  refine Goes.st (U' := s₁.setTop (mkF m 15 #[.val (.ref a1), .val (.int p2), .unset] [(.int p2)])) (fun t k => XS.iloadN X0.here hx rfl (hb hby d8_14) rfl k) ?_
  obtain ⟨T2, h2, k2, X2, e2, E2, A2, Ea2, st2⟩ := newPE X0 hx hZ (hw _ (List.mem_of_getElem? (i := 10) rfl)) e0 (g := (mkF m 15 #[.val (.ref a1), .val (.int p2), .unset] [(.int p2)])) rfl (hb hby d8_15) rfl (by rw [hn]; exact (own_nat _ (by omega)).1) (cap := 8) (by rw [hn, (own_nat _ (by omega)).2.1]; exact hn8) (by decide) (by decide) (by decide) (ad := "[B") rfl
  obtain ⟨b2, g2⟩ : ∃ z, z = h0.size := ⟨_, rfl⟩
  rw [← g2] at A2 Ea2 st2
  have ne_a1_b2 : a1 ≠ b2 := Nat.ne_of_lt (Nat.lt_of_lt_of_le V_a1.lt (Nat.le_of_eq g2.symm))
  have g_b2 : n0 ≤ b2 := Nat.le_trans Z0 (Nat.le_of_eq g2.symm)
  have sz_b2 : h0.size ≤ b2 := Nat.le_trans (Keep.refl h0 []).1 (Nat.le_of_eq g2.symm)
  have K_3 : Keep h0 h2 [] := (Keep.refl h0 []).ext E2
  have V_b2 : Arv Z h2 b2 k2 .byte p2 [] (.int (0 : Int32)) := Arv.new A2 (by rw [hn]; exact (own_nat _ (by omega)).1)
  refine Goes.st (U' := T2.setTop (mkF m 17 #[.val (.ref a1), .val (.int p2), .unset] [(.ref b2)])) (fun t k => st2 t k) ?_
  refine Goes.st (U' := T2.setTop (mkF m 18 #[.val (.ref a1), .val (.int p2), .val (.ref b2)] [])) (fun t k => XS.astoreN X2.here hx rfl (hb hby d8_17) rfl rfl (l' := #[.val (.ref a1), .val (.int p2), .val (.ref b2)]) rfl k) ?_
  refine Goes.st (U' := T2.setTop (mkF m 19 #[.val (.ref a1), .val (.int p2), .val (.ref b2)] [(.ref a1)])) (fun t k => XS.aloadN X2.here hx rfl (hb hby d8_18) rfl rfl k) ?_
  refine Goes.st (U' := T2.setTop (mkF m 20 #[.val (.ref a1), .val (.int p2), .val (.ref b2)] [(.int (0 : Int32)), (.ref a1)])) (fun t k => XS.iconst X2.here hx rfl (hb hby d8_19) k) ?_
  refine Goes.st (U' := T2.setTop (mkF m 21 #[.val (.ref a1), .val (.int p2), .val (.ref b2)] [(.ref b2), (.int (0 : Int32)), (.ref a1)])) (fun t k => XS.aloadN X2.here hx rfl (hb hby d8_20) rfl rfl k) ?_
  refine Goes.st (U' := T2.setTop (mkF m 22 #[.val (.ref a1), .val (.int p2), .val (.ref b2)] [(.int (0 : Int32)), (.ref b2), (.int (0 : Int32)), (.ref a1)])) (fun t k => XS.iconst X2.here hx rfl (hb hby d8_21) k) ?_
  refine Goes.st (U' := T2.setTop (mkF m 23 #[.val (.ref a1), .val (.int p2), .val (.ref b2)] [(.ref a1), (.int (0 : Int32)), (.ref b2), (.int (0 : Int32)), (.ref a1)])) (fun t k => XS.aloadN X2.here hx rfl (hb hby d8_22) rfl rfl k) ?_
  have Vx4 := (V_a1.ext E2)
  obtain ⟨cl4, Ar4, -, S4, Nn4, -, -⟩ := Vx4
  refine Goes.st (U' := T2.setTop (mkF m 24 #[.val (.ref a1), .val (.int p2), .val (.ref b2)] [(.int (64 : Int32)), (.int (0 : Int32)), (.ref b2), (.int (0 : Int32)), (.ref a1)])) (fun t k => (X2.arraylength hx (by rw [e2]; exact Ar4.1) (State.isArrayOf_alike hZ.alike Ar4.2.1) (g := (mkF m 23 #[.val (.ref a1), .val (.int p2), .val (.ref b2)] [(.ref a1), (.int (0 : Int32)), (.ref b2), (.int (0 : Int32)), (.ref a1)])) rfl rfl (hb hby d8_23) t (by rw [len_of S4 Nn4]; exact k))) ?_
  refine Goes.st (U' := T2.setTop (mkF m 25 #[.val (.ref a1), .val (.int p2), .val (.ref b2)] [(.int p2), (.int (64 : Int32)), (.int (0 : Int32)), (.ref b2), (.int (0 : Int32)), (.ref a1)])) (fun t k => XS.iloadN X2.here hx rfl (hb hby d8_24) rfl k) ?_
  obtain ⟨_, _, ⟨T5, L5, k5, n5⟩, -, X5, ⟨Lc5, hQ5, l5, y5, z5⟩, st5⟩ := Jvm.LawKit.callS X2 hx (y := (⟨"java/lang/Math", "min", "(II)I"⟩ : MethodName)) hown (mvT hZ (hw _ (List.mem_of_getElem? (i := 43) rfl))) (mvT hZ (hw _ (List.mem_of_getElem? (i := 44) rfl))) (mvT hZ (hw _ (List.mem_of_getElem? (i := 45) rfl))) (mvT hZ (hw _ (List.mem_of_getElem? (i := 46) rfl))) (by decide) (backOf (W := 4) (rm9 l Z a0 hw [] (64 : Int32) p2 h2 n0 (Nat.le_trans Z0 E2.1)) hZ (hw _ (List.mem_of_getElem? (i := 46) rfl)) (hw _ (List.mem_of_getElem? (i := 45) rfl)) (by decide) (by decide)) (g := (mkF m 25 #[.val (.ref a1), .val (.int p2), .val (.ref b2)] [(.int p2), (.int (64 : Int32)), (.int (0 : Int32)), (.ref b2), (.int (0 : Int32)), (.ref a1)])) rfl (by rw [hml]; rfl) (argsL := [(.int (64 : Int32)), (.int p2)]) (rest := [(.int (0 : Int32)), (.ref b2), (.int (0 : Int32)), (.ref a1)]) (lenOf pd_1 rfl) rfl (by show 2 * 0 + _ ≤ _; exact Nat.le_of_eq rfl) (hb hby d8_25) (fun _ _ => ⟨rfl, e2, (by decide : 1 + 0 ≤ _), (by decide : 8 + 0 ≤ _)⟩)
  dsimp only [Pt.U, Pt.locs, Pt.cells, Pt.slots] at X5 l5 y5 z5 st5 hQ5
  subst l5 y5 z5
  obtain ⟨rfl, N5q, e5⟩ := hQ5
  have N5 := Fr.app N0 N5q
  refine Goes.st (U' := T5.setTop (mkF m 28 #[.val (.ref a1), .val (.int p2), .val (.ref b2)] [(.int (fnmin (64 : Int32) p2)), (.int (0 : Int32)), (.ref b2), (.int (0 : Int32)), (.ref a1)])) st5 ?_
  rw [(own_min _ (by rw [hn]; exact (own_nat _ (by omega)).2.2.2.1) : (fnmin (64 : Int32) p2) = p2)]
  have ep : p2.toNatClampNeg = n := by rw [hn]; exact (own_nat _ (by omega)).2.1
  have Vp : Arv Z h2 b2 k2 .byte p2 ([] ++ List.replicate n (.int (0 : Int32))) (.int (0 : Int32)) := V_b2.pad (pad_rep [] _ _)
  obtain ⟨T6, h6, L6, X6, e6, N6, K6, V6x, st6⟩ := cpA X5 hx hZ hown (hw _ (List.mem_of_getElem? (i := 47) rfl)) (hw _ (List.mem_of_getElem? (i := 50) rfl)) (hw _ (List.mem_of_getElem? (i := 48) rfl)) (hw _ (List.mem_of_getElem? (i := 49) rfl)) e5 (sp := (0 : Int32)) (dp := (0 : Int32)) (nn := p2) (V_a1.ext E2) Vp (Or.inl ⟨rfl, rfl⟩) (by decide) (by decide) (by rw [hn]; exact (own_nat _ (by omega)).1) (by rw [ep]; show 0 + n ≤ 64; omega) (by rw [ep]; show 0 + n ≤ n; omega) rfl (by rw [ep, List.nil_append, List.length_replicate]; exact Nat.le_of_eq (Nat.zero_add _)) N5 g_b2 (g := (mkF m 28 #[.val (.ref a1), .val (.int p2), .val (.ref b2)] [(.int p2), (.int (0 : Int32)), (.ref b2), (.int (0 : Int32)), (.ref a1)])) rfl (by rw [hml]; rfl) rfl (hb hby d8_28) (by decide) (W := 0) (by show 2 * 0 + _ ≤ _; exact Nat.le_of_eq rfl) (by decide)
  have K_7 : Keep h0 h6 [] := K_3.trans K6 (allS (Or.inr sz_b2) all0)
  have V6 : Arv Z h6 b2 k2 .byte p2 vs (.int (0 : Int32)) := V6x.pad (by rw [ep]; exact own_copy vs _ _ _ hvs (by simp))
  refine Goes.st (U' := T6.setTop (mkF m 31 #[.val (.ref a1), .val (.int p2), .val (.ref b2)] [])) (fun t k => st6 t k) ?_
  refine Goes.st (U' := T6.setTop (mkF m 32 #[.val (.ref a1), .val (.int p2), .val (.ref b2)] [(.ref b2)])) (fun t k => XS.aloadN X6.here hx rfl (hb hby d8_31) rfl rfl k) ?_
  refine Goes.retA X6 hx (BodyLoose.notSynchronized Bd) Bd.returns (hb hby d8_32) rfl rfl rfl (by decide) (by decide) ?_
  show Q8 Z a1 p2 k vs n h0 n0 _ T6.heap _
  rw [e6]
  exact ⟨b2, k2, rfl, N6, K_7, V6, (Ea2.keep K6), g_b2, sz_b2⟩
theorem d7_0 : decode prog_9_method_7_code 0 = .ok (.aload_n 0, 1) := by decide +kernel
theorem d7_1 : decode prog_9_method_7_code 1 = .ok (.getfield 9, 3) := by decide +kernel
theorem d7_4 : decode prog_9_method_7_code 4 = .ok (.aload_n 0, 1) := by decide +kernel
theorem d7_5 : decode prog_9_method_7_code 5 = .ok (.getfield 13, 3) := by decide +kernel
theorem d7_8 : decode prog_9_method_7_code 8 = .ok (.invokestatic 29, 3) := by decide +kernel
theorem d7_11 : decode prog_9_method_7_code 11 = .ok (.areturn, 1) := by decide +kernel
theorem pd_2 : parseMethodDescriptor "([BI)[B" = some ⟨[(.array .byte), .int], some (.array .byte)⟩ := by decide +kernel
theorem ef_rm7 (m : MethodId) (a1 : Addr) : entryFrame m #[(.ref a1)] 1 = mkF m 0 #[.val (.ref a1)] [] := by first | (simp [entryFrame, mkF, argsToLocals, Value.category]; done) | rfl
def Q7 (Z : State) (a1 : Addr) (arr : Addr) (k : ClassId) (xs : List Int32) (n : Nat) (h0 : Heap) (n0 : Nat) (v : Option Value) (h : Heap) (L : List Loc) : Prop := ∃ b k', v = some (.ref b) ∧ Fr n0 L ∧ Keep h0 h [] ∧ Arv Z h b k' .byte xs.length.toInt32 (xs.map .int) (.int (0 : Int32)) ∧ Exa Z h b "[B" ∧ n0 ≤ b ∧ h0.size ≤ b
set_option maxRecDepth 65536 in
set_option maxHeartbeats 40000000 in
theorem rm7 (l : Launch) (Z : State) (a0 : Array Value) (hw : ∀ d ∈ tables_1, d.before a0 Z = true) (ws : List Jvm.Cond) (a1 : Addr) (arr : Addr) (k : ClassId) (xs : List Int32) (n : Nat) (h0 : Heap) (n0 : Nat) (Z0 : n0 ≤ h0.size) (I : BO Z h0 a1 arr k xs) (hn8 : n ≤ 8) (hxs : xs.length = n) :
    MetFree l (⟨"com/example/compokey/compokey/keys/ByteOutput", "toByteArray", "()[B"⟩ : MethodName) (head1 (Jvm.Cond.code (⟨"com/example/compokey/compokey/keys/ByteOutput", "toByteArray", "()[B"⟩ : MethodName) prog_9_method_7_code 1 (some (.array .byte)) :: ws) ({ frames := 2, cells := 1, slots := 8, locals := 32 } : Room)) (fun a U => a = #[(.ref a1)] ∧ Z.Warmed39 U.vm ∧ U.heap = h0) (fun _ _ _ _ _ => True) (fun _ U o U' => ∃ v L, o = .returned v ∧ Q7 Z a1 arr k xs n h0 n0 v U'.heap L ∧ FrameEnd U o U' L ({ frames := 2, cells := 1, slots := 8, locals := 32 } : Room).cells ({ frames := 2, cells := 1, slots := 8, locals := 32 } : Room).slots) := by
  refine MetFree.of_bodySF (plainFor_of_name pn_0) hisR ?_
  intro p e s m args below meth c s₁ Bd hml0 hP hK
  obtain ⟨rfl, hZ, hh⟩ := hP
  have hx := Bd.exec
  have hby := Bd.bytes
  have hml : c.maxLocals = 1 := hml0
  have hown : s.vm.findClass "com/example/compokey/compokey/keys/ByteOutput" = some m.cls := findClass_of_methodNamed Bd.named
  have hnm := (name_of_methodNamed Bd.named Bd.method).1
  have X0 : Stand p l e ({ frames := 2, cells := 1, slots := 8, locals := 32 } : Room) s m #[(.ref a1)] below meth c s₁ [] 0 0 := Stand.of_body Bd
  have e0 : s₁.heap = h0 := by rw [← hh, Bd.state]; rfl
  have N0 := Fr.nil n0
  show Goes p e s below (fun v h L => Q7 Z a1 arr k xs n h0 n0 v h L) ({ frames := 2, cells := 1, slots := 8, locals := 32 } : Room).cells ({ frames := 2, cells := 1, slots := 8, locals := 32 } : Room).slots (s₁.setTop (entryFrame m #[(.ref a1)] 1))
  refine Goes.st (U' := s₁.setTop (mkF m 0 #[.val (.ref a1)] [])) (fun t k => castTop (ef_rm7 m a1) k) ?_
  obtain ⟨E_a1, F_size_a1, F_bytes_a1, V_arr, E_arr, ne_a1_arr⟩ := I
  refine Goes.st (U' := s₁.setTop (mkF m 1 #[.val (.ref a1)] [(.ref a1)])) (fun t k => XS.aloadN X0.here hx rfl (hb hby d7_0) rfl rfl k) ?_
  obtain ⟨T1, X1, e1, st1⟩ := getF X0 hx hZ hown (host := "") (Or.inl (hw _ (List.mem_of_getElem? (i := 11) rfl))) Via.refl e0 F_bytes_a1 (g := (mkF m 1 #[.val (.ref a1)] [(.ref a1)])) rfl rfl (hb hby d7_1)
  refine Goes.st (U' := T1.setTop (mkF m 4 #[.val (.ref a1)] [(.ref arr)])) (fun t k => st1 t k) ?_
  refine Goes.st (U' := T1.setTop (mkF m 5 #[.val (.ref a1)] [(.ref a1), (.ref arr)])) (fun t k => XS.aloadN X1.here hx rfl (hb hby d7_4) rfl rfl k) ?_
  obtain ⟨T2, X2, e2, st2⟩ := getF X1 hx hZ hown (host := "") (Or.inl (hw _ (List.mem_of_getElem? (i := 18) rfl))) Via.refl e1 F_size_a1 (g := (mkF m 5 #[.val (.ref a1)] [(.ref a1), (.ref arr)])) rfl rfl (hb hby d7_5)
  refine Goes.st (U' := T2.setTop (mkF m 8 #[.val (.ref a1)] [(.int (xs.length.toInt32)), (.ref arr)])) (fun t k => st2 t k) ?_
  obtain ⟨_, _, ⟨T3, L3, k3, n3⟩, -, X3, ⟨Lc3, hQ3, l3, y3, z3⟩, st3⟩ := Jvm.LawKit.callS X2 hx (y := (⟨"java/util/Arrays", "copyOf", "([BI)[B"⟩ : MethodName)) hown (mvT hZ (hw _ (List.mem_of_getElem? (i := 39) rfl))) (mvT hZ (hw _ (List.mem_of_getElem? (i := 40) rfl))) (mvT hZ (hw _ (List.mem_of_getElem? (i := 41) rfl))) (mvT hZ (hw _ (List.mem_of_getElem? (i := 42) rfl))) (by decide) (backOf (W := 0) (rm8 l Z a0 hw [] arr (xs.length.toInt32) k (xs.map .int) n h0 n0 Z0 (V_arr) (hn8) ((by rw [hxs])) ((by rw [List.length_map]; exact hxs))) hZ (hw _ (List.mem_of_getElem? (i := 42) rfl)) (hw _ (List.mem_of_getElem? (i := 41) rfl)) (by decide) (by decide)) (g := (mkF m 8 #[.val (.ref a1)] [(.int (xs.length.toInt32)), (.ref arr)])) rfl (by rw [hml]; rfl) (argsL := [(.ref arr), (.int (xs.length.toInt32))]) (rest := []) (lenOf pd_2 rfl) rfl (by show 2 * 0 + _ ≤ _; exact Nat.le_of_eq rfl) (hb hby d7_8) (fun _ _ => ⟨rfl, e2, (by decide : 0 + 1 ≤ _), (by decide : 0 + 8 ≤ _)⟩)
  dsimp only [Pt.U, Pt.locs, Pt.cells, Pt.slots] at X3 l3 y3 z3 st3 hQ3
  subst l3 y3 z3
  obtain ⟨nb3, kb3, rfl, N3q, K3, V_nb3, E_nb3, g_nb3, u3⟩ := hQ3
  have N3 := Fr.app N0 N3q
  have sz_nb3 : h0.size ≤ nb3 := Nat.le_trans (Keep.refl h0 []).1 u3
  have K_4 : Keep h0 T3.heap [] := (Keep.refl h0 []).trans K3 all0
  refine Goes.st (U' := T3.setTop (mkF m 11 #[.val (.ref a1)] [(.ref nb3)])) st3 ?_
  refine Goes.retA X3 hx (BodyLoose.notSynchronized Bd) Bd.returns (hb hby d7_11) rfl rfl rfl (by decide) (by decide) ?_
  show Q7 Z a1 arr k xs n h0 n0 _ T3.heap _
  exact ⟨nb3, kb3, rfl, N3, K_4, V_nb3, E_nb3, g_nb3, sz_nb3⟩
theorem d10_0 : decode method_2_code 0 = .ok (.iload_n 1, 1) := by decide +kernel
theorem d10_1 : decode method_2_code 1 = .ok (.iload_n 2, 1) := by decide +kernel
theorem d10_2 : decode method_2_code 2 = .ok (.if_icmp .lt 5, 3) := by decide +kernel
theorem d10_5 : decode method_2_code 5 = .ok (.iconst 1, 1) := by decide +kernel
theorem d10_6 : decode method_2_code 6 = .ok (.ireturn, 1) := by decide +kernel
theorem d10_7 : decode method_2_code 7 = .ok (.lload 4, 2) := by decide +kernel
theorem d10_9 : decode method_2_code 9 = .ok (.iload_n 2, 1) := by decide +kernel
theorem d10_10 : decode method_2_code 10 = .ok (.iconst 1, 1) := by decide +kernel
theorem d10_11 : decode method_2_code 11 = .ok (.isub, 1) := by decide +kernel
theorem d10_12 : decode method_2_code 12 = .ok (.iload_n 1, 1) := by decide +kernel
theorem d10_13 : decode method_2_code 13 = .ok (.isub, 1) := by decide +kernel
theorem d10_14 : decode method_2_code 14 = .ok (.bipush 8, 2) := by decide +kernel
theorem d10_16 : decode method_2_code 16 = .ok (.imul, 1) := by decide +kernel
theorem d10_17 : decode method_2_code 17 = .ok (.lushr, 1) := by decide +kernel
theorem d10_18 : decode method_2_code 18 = .ok (.l2i, 1) := by decide +kernel
theorem d10_19 : decode method_2_code 19 = .ok (.i2b, 1) := by decide +kernel
theorem d10_20 : decode method_2_code 20 = .ok (.istore 6, 2) := by decide +kernel
theorem d10_22 : decode method_2_code 22 = .ok (.iload_n 1, 1) := by decide +kernel
theorem d10_23 : decode method_2_code 23 = .ok (.iload_n 3, 1) := by decide +kernel
theorem d10_24 : decode method_2_code 24 = .ok (.if_icmp .lt 11, 3) := by decide +kernel
theorem d10_27 : decode method_2_code 27 = .ok (.iload 6, 2) := by decide +kernel
theorem d10_29 : decode method_2_code 29 = .ok (.iconst (-1), 1) := by decide +kernel
theorem d10_30 : decode method_2_code 30 = .ok (.ixor, 1) := by decide +kernel
theorem d10_31 : decode method_2_code 31 = .ok (.i2b, 1) := by decide +kernel
theorem d10_32 : decode method_2_code 32 = .ok (.goto 5, 3) := by decide +kernel
theorem d10_35 : decode method_2_code 35 = .ok (.iload 6, 2) := by decide +kernel
theorem d10_37 : decode method_2_code 37 = .ok (.istore 7, 2) := by decide +kernel
theorem d10_39 : decode method_2_code 39 = .ok (.aload_n 0, 1) := by decide +kernel
theorem d10_40 : decode method_2_code 40 = .ok (.iload_n 1, 1) := by decide +kernel
theorem d10_41 : decode method_2_code 41 = .ok (.baload, 1) := by decide +kernel
theorem d10_42 : decode method_2_code 42 = .ok (.iload 7, 2) := by decide +kernel
theorem d10_44 : decode method_2_code 44 = .ok (.if_icmp .ne 7, 3) := by decide +kernel
theorem d10_47 : decode method_2_code 47 = .ok (.iconst 1, 1) := by decide +kernel
theorem d10_48 : decode method_2_code 48 = .ok (.goto 4, 3) := by decide +kernel
theorem d10_52 : decode method_2_code 52 = .ok (.ireturn, 1) := by decide +kernel
theorem pn_2 : plainName "com/example/compokey/compokey/keys/ByteOutputInvertFromPinLaw" = true := by first | (simp [plainName, overriddenIn]; done) | decide +kernel
theorem ef_rm10 (m : MethodId) (a1 : Addr) (p2 : Int32) (p3 : Int32) (p4 : Int32) (q5 : Int64) : entryFrame m #[(.ref a1), (.int p2), (.int p3), (.int p4), (.long q5)] 8 = mkF m 0 #[.val (.ref a1), .val (.int p2), .val (.int p3), .val (.int p4), .val (.long q5), .second, .unset, .unset] [] := by first | (simp [entryFrame, mkF, argsToLocals, Value.category]; done) | rfl
def Q10 (Z : State) (a1 : Addr) (p2 : Int32) (p3 : Int32) (p4 : Int32) (q5 : Int64) (k : ClassId) (vs : List Value) (h0 : Heap) (n0 : Nat) (v : Option Value) (h : Heap) (L : List Loc) : Prop := v = some (.int 1) ∧ Fr n0 L ∧ h = h0
set_option maxRecDepth 65536 in
set_option maxHeartbeats 40000000 in
theorem rm10 (l : Launch) (Z : State) (a0 : Array Value) (hw : ∀ d ∈ tables_1, d.before a0 Z = true) (ws : List Jvm.Cond) (a1 : Addr) (p2 : Int32) (p3 : Int32) (p4 : Int32) (q5 : Int64) (k : ClassId) (vs : List Value) (h0 : Heap) (n0 : Nat) (Z0 : n0 ≤ h0.size) (V_a1 : Arv Z h0 a1 k .byte p3 vs (.int (0 : Int32))) (hi : ¬ p2 < 0) (hat : p2 < p3 → vs.getD p2.toNatClampNeg (.int (0 : Int32)) = .int (if p2 < p4 then ((((q5.toUInt64 >>> ((((p3 - (1 : Int32)) - p2) * (8 : Int32)) &&& 0x3f).toInt64.toUInt64).toInt64).toInt32).toInt8.toInt32) else ((((((q5.toUInt64 >>> ((((p3 - (1 : Int32)) - p2) * (8 : Int32)) &&& 0x3f).toInt64.toUInt64).toInt64).toInt32).toInt8.toInt32) ^^^ (-1 : Int32)).toInt8.toInt32))) :
    MetFree l (⟨"com/example/compokey/compokey/keys/ByteOutputInvertFromPinLaw", "ok", "([BIIIJ)Z"⟩ : MethodName) (head1 (Jvm.Cond.code (⟨"com/example/compokey/compokey/keys/ByteOutputInvertFromPinLaw", "ok", "([BIIIJ)Z"⟩ : MethodName) method_2_code 8 (some .boolean) :: ws) ({ frames := 0, cells := 0, slots := 0, locals := 0 } : Room)) (fun a U => a = #[(.ref a1), (.int p2), (.int p3), (.int p4), (.long q5)] ∧ Z.Warmed39 U.vm ∧ U.heap = h0) (fun _ _ _ _ _ => True) (fun _ U o U' => ∃ v L, o = .returned v ∧ Q10 Z a1 p2 p3 p4 q5 k vs h0 n0 v U'.heap L ∧ FrameEnd U o U' L ({ frames := 0, cells := 0, slots := 0, locals := 0 } : Room).cells ({ frames := 0, cells := 0, slots := 0, locals := 0 } : Room).slots) := by
  refine MetFree.of_bodySF (plainFor_of_name pn_2) hisR ?_
  intro p e s m args below meth c s₁ Bd hml0 hP hK
  obtain ⟨rfl, hZ, hh⟩ := hP
  have hx := Bd.exec
  have hby := Bd.bytes
  have hml : c.maxLocals = 8 := hml0
  have hown : s.vm.findClass "com/example/compokey/compokey/keys/ByteOutputInvertFromPinLaw" = some m.cls := findClass_of_methodNamed Bd.named
  have hnm := (name_of_methodNamed Bd.named Bd.method).1
  have X0 : Stand p l e ({ frames := 0, cells := 0, slots := 0, locals := 0 } : Room) s m #[(.ref a1), (.int p2), (.int p3), (.int p4), (.long q5)] below meth c s₁ [] 0 0 := Stand.of_body Bd
  have e0 : s₁.heap = h0 := by rw [← hh, Bd.state]; rfl
  have N0 := Fr.nil n0
  show Goes p e s below (fun v h L => Q10 Z a1 p2 p3 p4 q5 k vs h0 n0 v h L) ({ frames := 0, cells := 0, slots := 0, locals := 0 } : Room).cells ({ frames := 0, cells := 0, slots := 0, locals := 0 } : Room).slots (s₁.setTop (entryFrame m #[(.ref a1), (.int p2), (.int p3), (.int p4), (.long q5)] 8))
  refine Goes.st (U' := s₁.setTop (mkF m 0 #[.val (.ref a1), .val (.int p2), .val (.int p3), .val (.int p4), .val (.long q5), .second, .unset, .unset] [])) (fun t k => castTop (ef_rm10 m a1 p2 p3 p4 q5) k) ?_
  refine Goes.st (U' := s₁.setTop (mkF m 1 #[.val (.ref a1), .val (.int p2), .val (.int p3), .val (.int p4), .val (.long q5), .second, .unset, .unset] [(.int p2)])) (fun t k => XS.iloadN X0.here hx rfl (hb hby d10_0) rfl k) ?_
  refine Goes.st (U' := s₁.setTop (mkF m 2 #[.val (.ref a1), .val (.int p2), .val (.int p3), .val (.int p4), .val (.long q5), .second, .unset, .unset] [(.int p3), (.int p2)])) (fun t k => XS.iloadN X0.here hx rfl (hb hby d10_1) rfl k) ?_
  rcases Decidable.em (p2 < p3) with hc2 | hc2
  · refine Goes.st (U' := s₁.setTop (mkF m 7 #[.val (.ref a1), .val (.int p2), .val (.int p3), .val (.int p4), .val (.long q5), .second, .unset, .unset] [])) (fun t k => XS.icmpYes X0.here hx rfl (pc0 := 2) (pc' := 7) rfl (hb hby d10_2) rfl (tlt hc2).1 (by decide) (by decide) k) ?_
    refine Goes.st (U' := s₁.setTop (mkF m 9 #[.val (.ref a1), .val (.int p2), .val (.int p3), .val (.int p4), .val (.long q5), .second, .unset, .unset] [(.long q5)])) (fun t k => XS.lload X0.here hx rfl (hb hby d10_7) rfl k) ?_
    refine Goes.st (U' := s₁.setTop (mkF m 10 #[.val (.ref a1), .val (.int p2), .val (.int p3), .val (.int p4), .val (.long q5), .second, .unset, .unset] [(.int p3), (.long q5)])) (fun t k => XS.iloadN X0.here hx rfl (hb hby d10_9) rfl k) ?_
    refine Goes.st (U' := s₁.setTop (mkF m 11 #[.val (.ref a1), .val (.int p2), .val (.int p3), .val (.int p4), .val (.long q5), .second, .unset, .unset] [(.int (1 : Int32)), (.int p3), (.long q5)])) (fun t k => XS.iconst X0.here hx rfl (hb hby d10_10) k) ?_
    refine Goes.st (U' := s₁.setTop (mkF m 12 #[.val (.ref a1), .val (.int p2), .val (.int p3), .val (.int p4), .val (.long q5), .second, .unset, .unset] [(.int (p3 - (1 : Int32))), (.long q5)])) (fun t k => XS.isub X0.here hx rfl (hb hby d10_11) rfl k) ?_
    refine Goes.st (U' := s₁.setTop (mkF m 13 #[.val (.ref a1), .val (.int p2), .val (.int p3), .val (.int p4), .val (.long q5), .second, .unset, .unset] [(.int p2), (.int (p3 - (1 : Int32))), (.long q5)])) (fun t k => XS.iloadN X0.here hx rfl (hb hby d10_12) rfl k) ?_
    refine Goes.st (U' := s₁.setTop (mkF m 14 #[.val (.ref a1), .val (.int p2), .val (.int p3), .val (.int p4), .val (.long q5), .second, .unset, .unset] [(.int ((p3 - (1 : Int32)) - p2)), (.long q5)])) (fun t k => XS.isub X0.here hx rfl (hb hby d10_13) rfl k) ?_
    refine Goes.st (U' := s₁.setTop (mkF m 16 #[.val (.ref a1), .val (.int p2), .val (.int p3), .val (.int p4), .val (.long q5), .second, .unset, .unset] [(.int (8 : Int32)), (.int ((p3 - (1 : Int32)) - p2)), (.long q5)])) (fun t k => XS.bipush X0.here hx rfl (hb hby d10_14) k) ?_
    refine Goes.st (U' := s₁.setTop (mkF m 17 #[.val (.ref a1), .val (.int p2), .val (.int p3), .val (.int p4), .val (.long q5), .second, .unset, .unset] [(.int (((p3 - (1 : Int32)) - p2) * (8 : Int32))), (.long q5)])) (fun t k => XS.imul X0.here hx rfl (hb hby d10_16) rfl k) ?_
    refine Goes.st (U' := s₁.setTop (mkF m 18 #[.val (.ref a1), .val (.int p2), .val (.int p3), .val (.int p4), .val (.long q5), .second, .unset, .unset] [(.long ((q5.toUInt64 >>> ((((p3 - (1 : Int32)) - p2) * (8 : Int32)) &&& 0x3f).toInt64.toUInt64).toInt64))])) (fun t k => XS.lushr X0.here hx rfl (hb hby d10_17) rfl k) ?_
    refine Goes.st (U' := s₁.setTop (mkF m 19 #[.val (.ref a1), .val (.int p2), .val (.int p3), .val (.int p4), .val (.long q5), .second, .unset, .unset] [(.int (((q5.toUInt64 >>> ((((p3 - (1 : Int32)) - p2) * (8 : Int32)) &&& 0x3f).toInt64.toUInt64).toInt64).toInt32))])) (fun t k => XS.l2i X0.here hx rfl (hb hby d10_18) rfl k) ?_
    refine Goes.st (U' := s₁.setTop (mkF m 20 #[.val (.ref a1), .val (.int p2), .val (.int p3), .val (.int p4), .val (.long q5), .second, .unset, .unset] [(.int ((((q5.toUInt64 >>> ((((p3 - (1 : Int32)) - p2) * (8 : Int32)) &&& 0x3f).toInt64.toUInt64).toInt64).toInt32).toInt8.toInt32))])) (fun t k => XS.i2b X0.here hx rfl (hb hby d10_19) rfl k) ?_
    refine Goes.st (U' := s₁.setTop (mkF m 22 #[.val (.ref a1), .val (.int p2), .val (.int p3), .val (.int p4), .val (.long q5), .second, .val (.int ((((q5.toUInt64 >>> ((((p3 - (1 : Int32)) - p2) * (8 : Int32)) &&& 0x3f).toInt64.toUInt64).toInt64).toInt32).toInt8.toInt32)), .unset] [])) (fun t k => XS.istore X0.here hx rfl (hb hby d10_20) rfl (l' := #[.val (.ref a1), .val (.int p2), .val (.int p3), .val (.int p4), .val (.long q5), .second, .val (.int ((((q5.toUInt64 >>> ((((p3 - (1 : Int32)) - p2) * (8 : Int32)) &&& 0x3f).toInt64.toUInt64).toInt64).toInt32).toInt8.toInt32)), .unset]) rfl k) ?_
    refine Goes.st (U' := s₁.setTop (mkF m 23 #[.val (.ref a1), .val (.int p2), .val (.int p3), .val (.int p4), .val (.long q5), .second, .val (.int ((((q5.toUInt64 >>> ((((p3 - (1 : Int32)) - p2) * (8 : Int32)) &&& 0x3f).toInt64.toUInt64).toInt64).toInt32).toInt8.toInt32)), .unset] [(.int p2)])) (fun t k => XS.iloadN X0.here hx rfl (hb hby d10_22) rfl k) ?_
    refine Goes.st (U' := s₁.setTop (mkF m 24 #[.val (.ref a1), .val (.int p2), .val (.int p3), .val (.int p4), .val (.long q5), .second, .val (.int ((((q5.toUInt64 >>> ((((p3 - (1 : Int32)) - p2) * (8 : Int32)) &&& 0x3f).toInt64.toUInt64).toInt64).toInt32).toInt8.toInt32)), .unset] [(.int p4), (.int p2)])) (fun t k => XS.iloadN X0.here hx rfl (hb hby d10_23) rfl k) ?_
    rcases Decidable.em (p2 < p4) with hc24 | hc24
    · refine Goes.st (U' := s₁.setTop (mkF m 35 #[.val (.ref a1), .val (.int p2), .val (.int p3), .val (.int p4), .val (.long q5), .second, .val (.int ((((q5.toUInt64 >>> ((((p3 - (1 : Int32)) - p2) * (8 : Int32)) &&& 0x3f).toInt64.toUInt64).toInt64).toInt32).toInt8.toInt32)), .unset] [])) (fun t k => XS.icmpYes X0.here hx rfl (pc0 := 24) (pc' := 35) rfl (hb hby d10_24) rfl (tlt hc24).1 (by decide) (by decide) k) ?_
      refine Goes.st (U' := s₁.setTop (mkF m 37 #[.val (.ref a1), .val (.int p2), .val (.int p3), .val (.int p4), .val (.long q5), .second, .val (.int ((((q5.toUInt64 >>> ((((p3 - (1 : Int32)) - p2) * (8 : Int32)) &&& 0x3f).toInt64.toUInt64).toInt64).toInt32).toInt8.toInt32)), .unset] [(.int ((((q5.toUInt64 >>> ((((p3 - (1 : Int32)) - p2) * (8 : Int32)) &&& 0x3f).toInt64.toUInt64).toInt64).toInt32).toInt8.toInt32))])) (fun t k => XS.iload X0.here hx rfl (hb hby d10_35) rfl k) ?_
      refine Goes.st (U' := s₁.setTop (mkF m 39 #[.val (.ref a1), .val (.int p2), .val (.int p3), .val (.int p4), .val (.long q5), .second, .val (.int ((((q5.toUInt64 >>> ((((p3 - (1 : Int32)) - p2) * (8 : Int32)) &&& 0x3f).toInt64.toUInt64).toInt64).toInt32).toInt8.toInt32)), .val (.int ((((q5.toUInt64 >>> ((((p3 - (1 : Int32)) - p2) * (8 : Int32)) &&& 0x3f).toInt64.toUInt64).toInt64).toInt32).toInt8.toInt32))] [])) (fun t k => XS.istore X0.here hx rfl (hb hby d10_37) rfl (l' := #[.val (.ref a1), .val (.int p2), .val (.int p3), .val (.int p4), .val (.long q5), .second, .val (.int ((((q5.toUInt64 >>> ((((p3 - (1 : Int32)) - p2) * (8 : Int32)) &&& 0x3f).toInt64.toUInt64).toInt64).toInt32).toInt8.toInt32)), .val (.int ((((q5.toUInt64 >>> ((((p3 - (1 : Int32)) - p2) * (8 : Int32)) &&& 0x3f).toInt64.toUInt64).toInt64).toInt32).toInt8.toInt32))]) rfl k) ?_
      refine Goes.st (U' := s₁.setTop (mkF m 40 #[.val (.ref a1), .val (.int p2), .val (.int p3), .val (.int p4), .val (.long q5), .second, .val (.int ((((q5.toUInt64 >>> ((((p3 - (1 : Int32)) - p2) * (8 : Int32)) &&& 0x3f).toInt64.toUInt64).toInt64).toInt32).toInt8.toInt32)), .val (.int ((((q5.toUInt64 >>> ((((p3 - (1 : Int32)) - p2) * (8 : Int32)) &&& 0x3f).toInt64.toUInt64).toInt64).toInt32).toInt8.toInt32))] [(.ref a1)])) (fun t k => XS.aloadN X0.here hx rfl (hb hby d10_39) rfl rfl k) ?_
      refine Goes.st (U' := s₁.setTop (mkF m 41 #[.val (.ref a1), .val (.int p2), .val (.int p3), .val (.int p4), .val (.long q5), .second, .val (.int ((((q5.toUInt64 >>> ((((p3 - (1 : Int32)) - p2) * (8 : Int32)) &&& 0x3f).toInt64.toUInt64).toInt64).toInt32).toInt8.toInt32)), .val (.int ((((q5.toUInt64 >>> ((((p3 - (1 : Int32)) - p2) * (8 : Int32)) &&& 0x3f).toInt64.toUInt64).toInt64).toInt32).toInt8.toInt32))] [(.int p2), (.ref a1)])) (fun t k => XS.iloadN X0.here hx rfl (hb hby d10_40) rfl k) ?_
      have Vx1 := V_a1
      obtain ⟨cl1, Ar1, qa1, S1, Nn1, H1, G1⟩ := Vx1
      have hin1 : ¬ (p2 < 0 ∨ cl1.slots.size ≤ (p2).toNatClampNeg) := inb_of S1 ⟨hi, hc2⟩
      have hat1 : cl1.slots[(p2).toNatClampNeg]? = some (.int ((((q5.toUInt64 >>> ((((p3 - (1 : Int32)) - p2) * (8 : Int32)) &&& 0x3f).toInt64.toUInt64).toInt64).toInt32).toInt8.toInt32)) := H1.at hin1 (by rw [hat hc2, if_pos hc24])
      refine Goes.st (U' := s₁.setTop (mkF m 42 #[.val (.ref a1), .val (.int p2), .val (.int p3), .val (.int p4), .val (.long q5), .second, .val (.int ((((q5.toUInt64 >>> ((((p3 - (1 : Int32)) - p2) * (8 : Int32)) &&& 0x3f).toInt64.toUInt64).toInt64).toInt32).toInt8.toInt32)), .val (.int ((((q5.toUInt64 >>> ((((p3 - (1 : Int32)) - p2) * (8 : Int32)) &&& 0x3f).toInt64.toUInt64).toInt64).toInt32).toInt8.toInt32))] [(.int ((((q5.toUInt64 >>> ((((p3 - (1 : Int32)) - p2) * (8 : Int32)) &&& 0x3f).toInt64.toUInt64).toInt64).toInt32).toInt8.toInt32))])) (fun t k => X0.baloadBytes hx (j := p2) (v := (.int ((((q5.toUInt64 >>> ((((p3 - (1 : Int32)) - p2) * (8 : Int32)) &&& 0x3f).toInt64.toUInt64).toInt64).toInt32).toInt8.toInt32))) (by rw [e0]; exact Ar1.1) (State.isArrayOf_alike hZ.alike Ar1.2.1) Ar1.2.2 hin1 hat1 (g := (mkF m 41 #[.val (.ref a1), .val (.int p2), .val (.int p3), .val (.int p4), .val (.long q5), .second, .val (.int ((((q5.toUInt64 >>> ((((p3 - (1 : Int32)) - p2) * (8 : Int32)) &&& 0x3f).toInt64.toUInt64).toInt64).toInt32).toInt8.toInt32)), .val (.int ((((q5.toUInt64 >>> ((((p3 - (1 : Int32)) - p2) * (8 : Int32)) &&& 0x3f).toInt64.toUInt64).toInt64).toInt32).toInt8.toInt32))] [(.int p2), (.ref a1)])) rfl rfl (hb hby d10_41) t k) ?_
      refine Goes.st (U' := s₁.setTop (mkF m 44 #[.val (.ref a1), .val (.int p2), .val (.int p3), .val (.int p4), .val (.long q5), .second, .val (.int ((((q5.toUInt64 >>> ((((p3 - (1 : Int32)) - p2) * (8 : Int32)) &&& 0x3f).toInt64.toUInt64).toInt64).toInt32).toInt8.toInt32)), .val (.int ((((q5.toUInt64 >>> ((((p3 - (1 : Int32)) - p2) * (8 : Int32)) &&& 0x3f).toInt64.toUInt64).toInt64).toInt32).toInt8.toInt32))] [(.int ((((q5.toUInt64 >>> ((((p3 - (1 : Int32)) - p2) * (8 : Int32)) &&& 0x3f).toInt64.toUInt64).toInt64).toInt32).toInt8.toInt32)), (.int ((((q5.toUInt64 >>> ((((p3 - (1 : Int32)) - p2) * (8 : Int32)) &&& 0x3f).toInt64.toUInt64).toInt64).toInt32).toInt8.toInt32))])) (fun t k => XS.iload X0.here hx rfl (hb hby d10_42) rfl k) ?_
      refine Goes.st (U' := s₁.setTop (mkF m 47 #[.val (.ref a1), .val (.int p2), .val (.int p3), .val (.int p4), .val (.long q5), .second, .val (.int ((((q5.toUInt64 >>> ((((p3 - (1 : Int32)) - p2) * (8 : Int32)) &&& 0x3f).toInt64.toUInt64).toInt64).toInt32).toInt8.toInt32)), .val (.int ((((q5.toUInt64 >>> ((((p3 - (1 : Int32)) - p2) * (8 : Int32)) &&& 0x3f).toInt64.toUInt64).toInt64).toInt32).toInt8.toInt32))] [])) (fun t k => XS.icmpNo X0.here hx rfl (hb hby d10_44) rfl (teq (rfl : ((((q5.toUInt64 >>> ((((p3 - (1 : Int32)) - p2) * (8 : Int32)) &&& 0x3f).toInt64.toUInt64).toInt64).toInt32).toInt8.toInt32) = ((((q5.toUInt64 >>> ((((p3 - (1 : Int32)) - p2) * (8 : Int32)) &&& 0x3f).toInt64.toUInt64).toInt64).toInt32).toInt8.toInt32))).2 k) ?_
      refine Goes.st (U' := s₁.setTop (mkF m 48 #[.val (.ref a1), .val (.int p2), .val (.int p3), .val (.int p4), .val (.long q5), .second, .val (.int ((((q5.toUInt64 >>> ((((p3 - (1 : Int32)) - p2) * (8 : Int32)) &&& 0x3f).toInt64.toUInt64).toInt64).toInt32).toInt8.toInt32)), .val (.int ((((q5.toUInt64 >>> ((((p3 - (1 : Int32)) - p2) * (8 : Int32)) &&& 0x3f).toInt64.toUInt64).toInt64).toInt32).toInt8.toInt32))] [(.int (1 : Int32))])) (fun t k => XS.iconst X0.here hx rfl (hb hby d10_47) k) ?_
      refine Goes.st (U' := s₁.setTop (mkF m 52 #[.val (.ref a1), .val (.int p2), .val (.int p3), .val (.int p4), .val (.long q5), .second, .val (.int ((((q5.toUInt64 >>> ((((p3 - (1 : Int32)) - p2) * (8 : Int32)) &&& 0x3f).toInt64.toUInt64).toInt64).toInt32).toInt8.toInt32)), .val (.int ((((q5.toUInt64 >>> ((((p3 - (1 : Int32)) - p2) * (8 : Int32)) &&& 0x3f).toInt64.toUInt64).toInt64).toInt32).toInt8.toInt32))] [(.int (1 : Int32))])) (fun t k => XS.goto X0.here hx rfl (pc0 := 48) (pc' := 52) rfl (hb hby d10_48) (by decide) (by decide) k) ?_
      refine Goes.retZ X0 hx (BodyLoose.notSynchronized Bd) Bd.returns (hb hby d10_52) rfl (by decide) (by decide) ?_
      show Q10 Z a1 p2 p3 p4 q5 k vs h0 n0 _ s₁.heap _
      rw [e0]
      exact ⟨rfl, N0, rfl⟩
    · refine Goes.st (U' := s₁.setTop (mkF m 27 #[.val (.ref a1), .val (.int p2), .val (.int p3), .val (.int p4), .val (.long q5), .second, .val (.int ((((q5.toUInt64 >>> ((((p3 - (1 : Int32)) - p2) * (8 : Int32)) &&& 0x3f).toInt64.toUInt64).toInt64).toInt32).toInt8.toInt32)), .unset] [])) (fun t k => XS.icmpNo X0.here hx rfl (hb hby d10_24) rfl (flt hc24).1 k) ?_
      refine Goes.st (U' := s₁.setTop (mkF m 29 #[.val (.ref a1), .val (.int p2), .val (.int p3), .val (.int p4), .val (.long q5), .second, .val (.int ((((q5.toUInt64 >>> ((((p3 - (1 : Int32)) - p2) * (8 : Int32)) &&& 0x3f).toInt64.toUInt64).toInt64).toInt32).toInt8.toInt32)), .unset] [(.int ((((q5.toUInt64 >>> ((((p3 - (1 : Int32)) - p2) * (8 : Int32)) &&& 0x3f).toInt64.toUInt64).toInt64).toInt32).toInt8.toInt32))])) (fun t k => XS.iload X0.here hx rfl (hb hby d10_27) rfl k) ?_
      refine Goes.st (U' := s₁.setTop (mkF m 30 #[.val (.ref a1), .val (.int p2), .val (.int p3), .val (.int p4), .val (.long q5), .second, .val (.int ((((q5.toUInt64 >>> ((((p3 - (1 : Int32)) - p2) * (8 : Int32)) &&& 0x3f).toInt64.toUInt64).toInt64).toInt32).toInt8.toInt32)), .unset] [(.int (-1 : Int32)), (.int ((((q5.toUInt64 >>> ((((p3 - (1 : Int32)) - p2) * (8 : Int32)) &&& 0x3f).toInt64.toUInt64).toInt64).toInt32).toInt8.toInt32))])) (fun t k => XS.iconst X0.here hx rfl (hb hby d10_29) k) ?_
      refine Goes.st (U' := s₁.setTop (mkF m 31 #[.val (.ref a1), .val (.int p2), .val (.int p3), .val (.int p4), .val (.long q5), .second, .val (.int ((((q5.toUInt64 >>> ((((p3 - (1 : Int32)) - p2) * (8 : Int32)) &&& 0x3f).toInt64.toUInt64).toInt64).toInt32).toInt8.toInt32)), .unset] [(.int (((((q5.toUInt64 >>> ((((p3 - (1 : Int32)) - p2) * (8 : Int32)) &&& 0x3f).toInt64.toUInt64).toInt64).toInt32).toInt8.toInt32) ^^^ (-1 : Int32)))])) (fun t k => XS.ixor X0.here hx rfl (hb hby d10_30) rfl k) ?_
      refine Goes.st (U' := s₁.setTop (mkF m 32 #[.val (.ref a1), .val (.int p2), .val (.int p3), .val (.int p4), .val (.long q5), .second, .val (.int ((((q5.toUInt64 >>> ((((p3 - (1 : Int32)) - p2) * (8 : Int32)) &&& 0x3f).toInt64.toUInt64).toInt64).toInt32).toInt8.toInt32)), .unset] [(.int ((((((q5.toUInt64 >>> ((((p3 - (1 : Int32)) - p2) * (8 : Int32)) &&& 0x3f).toInt64.toUInt64).toInt64).toInt32).toInt8.toInt32) ^^^ (-1 : Int32)).toInt8.toInt32))])) (fun t k => XS.i2b X0.here hx rfl (hb hby d10_31) rfl k) ?_
      refine Goes.st (U' := s₁.setTop (mkF m 37 #[.val (.ref a1), .val (.int p2), .val (.int p3), .val (.int p4), .val (.long q5), .second, .val (.int ((((q5.toUInt64 >>> ((((p3 - (1 : Int32)) - p2) * (8 : Int32)) &&& 0x3f).toInt64.toUInt64).toInt64).toInt32).toInt8.toInt32)), .unset] [(.int ((((((q5.toUInt64 >>> ((((p3 - (1 : Int32)) - p2) * (8 : Int32)) &&& 0x3f).toInt64.toUInt64).toInt64).toInt32).toInt8.toInt32) ^^^ (-1 : Int32)).toInt8.toInt32))])) (fun t k => XS.goto X0.here hx rfl (pc0 := 32) (pc' := 37) rfl (hb hby d10_32) (by decide) (by decide) k) ?_
      refine Goes.st (U' := s₁.setTop (mkF m 39 #[.val (.ref a1), .val (.int p2), .val (.int p3), .val (.int p4), .val (.long q5), .second, .val (.int ((((q5.toUInt64 >>> ((((p3 - (1 : Int32)) - p2) * (8 : Int32)) &&& 0x3f).toInt64.toUInt64).toInt64).toInt32).toInt8.toInt32)), .val (.int ((((((q5.toUInt64 >>> ((((p3 - (1 : Int32)) - p2) * (8 : Int32)) &&& 0x3f).toInt64.toUInt64).toInt64).toInt32).toInt8.toInt32) ^^^ (-1 : Int32)).toInt8.toInt32))] [])) (fun t k => XS.istore X0.here hx rfl (hb hby d10_37) rfl (l' := #[.val (.ref a1), .val (.int p2), .val (.int p3), .val (.int p4), .val (.long q5), .second, .val (.int ((((q5.toUInt64 >>> ((((p3 - (1 : Int32)) - p2) * (8 : Int32)) &&& 0x3f).toInt64.toUInt64).toInt64).toInt32).toInt8.toInt32)), .val (.int ((((((q5.toUInt64 >>> ((((p3 - (1 : Int32)) - p2) * (8 : Int32)) &&& 0x3f).toInt64.toUInt64).toInt64).toInt32).toInt8.toInt32) ^^^ (-1 : Int32)).toInt8.toInt32))]) rfl k) ?_
      refine Goes.st (U' := s₁.setTop (mkF m 40 #[.val (.ref a1), .val (.int p2), .val (.int p3), .val (.int p4), .val (.long q5), .second, .val (.int ((((q5.toUInt64 >>> ((((p3 - (1 : Int32)) - p2) * (8 : Int32)) &&& 0x3f).toInt64.toUInt64).toInt64).toInt32).toInt8.toInt32)), .val (.int ((((((q5.toUInt64 >>> ((((p3 - (1 : Int32)) - p2) * (8 : Int32)) &&& 0x3f).toInt64.toUInt64).toInt64).toInt32).toInt8.toInt32) ^^^ (-1 : Int32)).toInt8.toInt32))] [(.ref a1)])) (fun t k => XS.aloadN X0.here hx rfl (hb hby d10_39) rfl rfl k) ?_
      refine Goes.st (U' := s₁.setTop (mkF m 41 #[.val (.ref a1), .val (.int p2), .val (.int p3), .val (.int p4), .val (.long q5), .second, .val (.int ((((q5.toUInt64 >>> ((((p3 - (1 : Int32)) - p2) * (8 : Int32)) &&& 0x3f).toInt64.toUInt64).toInt64).toInt32).toInt8.toInt32)), .val (.int ((((((q5.toUInt64 >>> ((((p3 - (1 : Int32)) - p2) * (8 : Int32)) &&& 0x3f).toInt64.toUInt64).toInt64).toInt32).toInt8.toInt32) ^^^ (-1 : Int32)).toInt8.toInt32))] [(.int p2), (.ref a1)])) (fun t k => XS.iloadN X0.here hx rfl (hb hby d10_40) rfl k) ?_
      have Vx2 := V_a1
      obtain ⟨cl2, Ar2, qa2, S2, Nn2, H2, G2⟩ := Vx2
      have hin2 : ¬ (p2 < 0 ∨ cl2.slots.size ≤ (p2).toNatClampNeg) := inb_of S2 ⟨hi, hc2⟩
      have hat2 : cl2.slots[(p2).toNatClampNeg]? = some (.int ((((((q5.toUInt64 >>> ((((p3 - (1 : Int32)) - p2) * (8 : Int32)) &&& 0x3f).toInt64.toUInt64).toInt64).toInt32).toInt8.toInt32) ^^^ (-1 : Int32)).toInt8.toInt32)) := H2.at hin2 (by rw [hat hc2, if_neg hc24])
      refine Goes.st (U' := s₁.setTop (mkF m 42 #[.val (.ref a1), .val (.int p2), .val (.int p3), .val (.int p4), .val (.long q5), .second, .val (.int ((((q5.toUInt64 >>> ((((p3 - (1 : Int32)) - p2) * (8 : Int32)) &&& 0x3f).toInt64.toUInt64).toInt64).toInt32).toInt8.toInt32)), .val (.int ((((((q5.toUInt64 >>> ((((p3 - (1 : Int32)) - p2) * (8 : Int32)) &&& 0x3f).toInt64.toUInt64).toInt64).toInt32).toInt8.toInt32) ^^^ (-1 : Int32)).toInt8.toInt32))] [(.int ((((((q5.toUInt64 >>> ((((p3 - (1 : Int32)) - p2) * (8 : Int32)) &&& 0x3f).toInt64.toUInt64).toInt64).toInt32).toInt8.toInt32) ^^^ (-1 : Int32)).toInt8.toInt32))])) (fun t k => X0.baloadBytes hx (j := p2) (v := (.int ((((((q5.toUInt64 >>> ((((p3 - (1 : Int32)) - p2) * (8 : Int32)) &&& 0x3f).toInt64.toUInt64).toInt64).toInt32).toInt8.toInt32) ^^^ (-1 : Int32)).toInt8.toInt32))) (by rw [e0]; exact Ar2.1) (State.isArrayOf_alike hZ.alike Ar2.2.1) Ar2.2.2 hin2 hat2 (g := (mkF m 41 #[.val (.ref a1), .val (.int p2), .val (.int p3), .val (.int p4), .val (.long q5), .second, .val (.int ((((q5.toUInt64 >>> ((((p3 - (1 : Int32)) - p2) * (8 : Int32)) &&& 0x3f).toInt64.toUInt64).toInt64).toInt32).toInt8.toInt32)), .val (.int ((((((q5.toUInt64 >>> ((((p3 - (1 : Int32)) - p2) * (8 : Int32)) &&& 0x3f).toInt64.toUInt64).toInt64).toInt32).toInt8.toInt32) ^^^ (-1 : Int32)).toInt8.toInt32))] [(.int p2), (.ref a1)])) rfl rfl (hb hby d10_41) t k) ?_
      refine Goes.st (U' := s₁.setTop (mkF m 44 #[.val (.ref a1), .val (.int p2), .val (.int p3), .val (.int p4), .val (.long q5), .second, .val (.int ((((q5.toUInt64 >>> ((((p3 - (1 : Int32)) - p2) * (8 : Int32)) &&& 0x3f).toInt64.toUInt64).toInt64).toInt32).toInt8.toInt32)), .val (.int ((((((q5.toUInt64 >>> ((((p3 - (1 : Int32)) - p2) * (8 : Int32)) &&& 0x3f).toInt64.toUInt64).toInt64).toInt32).toInt8.toInt32) ^^^ (-1 : Int32)).toInt8.toInt32))] [(.int ((((((q5.toUInt64 >>> ((((p3 - (1 : Int32)) - p2) * (8 : Int32)) &&& 0x3f).toInt64.toUInt64).toInt64).toInt32).toInt8.toInt32) ^^^ (-1 : Int32)).toInt8.toInt32)), (.int ((((((q5.toUInt64 >>> ((((p3 - (1 : Int32)) - p2) * (8 : Int32)) &&& 0x3f).toInt64.toUInt64).toInt64).toInt32).toInt8.toInt32) ^^^ (-1 : Int32)).toInt8.toInt32))])) (fun t k => XS.iload X0.here hx rfl (hb hby d10_42) rfl k) ?_
      refine Goes.st (U' := s₁.setTop (mkF m 47 #[.val (.ref a1), .val (.int p2), .val (.int p3), .val (.int p4), .val (.long q5), .second, .val (.int ((((q5.toUInt64 >>> ((((p3 - (1 : Int32)) - p2) * (8 : Int32)) &&& 0x3f).toInt64.toUInt64).toInt64).toInt32).toInt8.toInt32)), .val (.int ((((((q5.toUInt64 >>> ((((p3 - (1 : Int32)) - p2) * (8 : Int32)) &&& 0x3f).toInt64.toUInt64).toInt64).toInt32).toInt8.toInt32) ^^^ (-1 : Int32)).toInt8.toInt32))] [])) (fun t k => XS.icmpNo X0.here hx rfl (hb hby d10_44) rfl (teq (rfl : ((((((q5.toUInt64 >>> ((((p3 - (1 : Int32)) - p2) * (8 : Int32)) &&& 0x3f).toInt64.toUInt64).toInt64).toInt32).toInt8.toInt32) ^^^ (-1 : Int32)).toInt8.toInt32) = ((((((q5.toUInt64 >>> ((((p3 - (1 : Int32)) - p2) * (8 : Int32)) &&& 0x3f).toInt64.toUInt64).toInt64).toInt32).toInt8.toInt32) ^^^ (-1 : Int32)).toInt8.toInt32))).2 k) ?_
      refine Goes.st (U' := s₁.setTop (mkF m 48 #[.val (.ref a1), .val (.int p2), .val (.int p3), .val (.int p4), .val (.long q5), .second, .val (.int ((((q5.toUInt64 >>> ((((p3 - (1 : Int32)) - p2) * (8 : Int32)) &&& 0x3f).toInt64.toUInt64).toInt64).toInt32).toInt8.toInt32)), .val (.int ((((((q5.toUInt64 >>> ((((p3 - (1 : Int32)) - p2) * (8 : Int32)) &&& 0x3f).toInt64.toUInt64).toInt64).toInt32).toInt8.toInt32) ^^^ (-1 : Int32)).toInt8.toInt32))] [(.int (1 : Int32))])) (fun t k => XS.iconst X0.here hx rfl (hb hby d10_47) k) ?_
      refine Goes.st (U' := s₁.setTop (mkF m 52 #[.val (.ref a1), .val (.int p2), .val (.int p3), .val (.int p4), .val (.long q5), .second, .val (.int ((((q5.toUInt64 >>> ((((p3 - (1 : Int32)) - p2) * (8 : Int32)) &&& 0x3f).toInt64.toUInt64).toInt64).toInt32).toInt8.toInt32)), .val (.int ((((((q5.toUInt64 >>> ((((p3 - (1 : Int32)) - p2) * (8 : Int32)) &&& 0x3f).toInt64.toUInt64).toInt64).toInt32).toInt8.toInt32) ^^^ (-1 : Int32)).toInt8.toInt32))] [(.int (1 : Int32))])) (fun t k => XS.goto X0.here hx rfl (pc0 := 48) (pc' := 52) rfl (hb hby d10_48) (by decide) (by decide) k) ?_
      refine Goes.retZ X0 hx (BodyLoose.notSynchronized Bd) Bd.returns (hb hby d10_52) rfl (by decide) (by decide) ?_
      show Q10 Z a1 p2 p3 p4 q5 k vs h0 n0 _ s₁.heap _
      rw [e0]
      exact ⟨rfl, N0, rfl⟩
  · refine Goes.st (U' := s₁.setTop (mkF m 5 #[.val (.ref a1), .val (.int p2), .val (.int p3), .val (.int p4), .val (.long q5), .second, .unset, .unset] [])) (fun t k => XS.icmpNo X0.here hx rfl (hb hby d10_2) rfl (flt hc2).1 k) ?_
    refine Goes.st (U' := s₁.setTop (mkF m 6 #[.val (.ref a1), .val (.int p2), .val (.int p3), .val (.int p4), .val (.long q5), .second, .unset, .unset] [(.int (1 : Int32))])) (fun t k => XS.iconst X0.here hx rfl (hb hby d10_5) k) ?_
    refine Goes.retZ X0 hx (BodyLoose.notSynchronized Bd) Bd.returns (hb hby d10_6) rfl (by decide) (by decide) ?_
    show Q10 Z a1 p2 p3 p4 q5 k vs h0 n0 _ s₁.heap _
    rw [e0]
    exact ⟨rfl, N0, rfl⟩
theorem own_set_ne (xs : List Int32) (i j : Nat) (v : Int32) (h : i ≠ j) : (xs.set i v).getD j 0 = xs.getD j 0 := by
  simp [List.getD_eq_getElem?_getD, List.getElem?_set, h]
theorem own_set_eq (xs : List Int32) (i : Nat) (v : Int32) (h : i < xs.length) : (xs.set i v).getD i 0 = v := by
  simp [List.getD_eq_getElem?_getD, List.getElem?_set, h]
theorem own_inv_at (k i j : Nat) (ys : List Int32) (h : i + k ≤ ys.length) : (own_inv k i ys).getD j 0 = if i ≤ j ∧ j < i + k then own_neg (ys.getD j 0) else ys.getD j 0 := by
  induction k generalizing i ys with
  | zero => rw [own_inv, if_neg (by omega)]
  | succ k ih =>
    rw [own_inv, ih _ _ (by rw [List.length_set]; omega)]
    by_cases e : i = j
    · subst e
      rw [if_neg (by omega), if_pos (by omega), own_set_eq _ _ _ (by omega)]
    · rw [own_set_ne _ _ _ _ e]
      by_cases h1 : i + 1 ≤ j ∧ j < i + 1 + k
      · rw [if_pos h1, if_pos (by omega)]
      · rw [if_neg h1, if_neg (by omega)]
theorem own_be_at (q : Int64) (n i : Nat) (h : i < n) : (own_be q n).getD i 0 = own_by q (own_sh (n - i)) := by
  induction n generalizing i with
  | zero => omega
  | succ n ih =>
    cases i with
    | zero => rfl
    | succ i =>
      have e : n + 1 - (i + 1) = n - i := by omega
      rw [e]
      exact ih i (by omega)
theorem own_nn (x : Int32) : x.toInt8.toInt32.toInt8 = x.toInt8 := by simp
theorem own_shx (n i : Nat) (hn : n ≤ 8) (hi : i < n) : ((n.toInt32 - (1 : Int32)) - i.toInt32) * (8 : Int32) = own_sh (n - i) := by
  have h : ∀ (n : Fin 9) (i : Fin 9), i.1 < n.1 → ((n.1.toInt32 - (1 : Int32)) - i.1.toInt32) * (8 : Int32) = own_sh (n.1 - i.1) := by decide +kernel
  exact h ⟨n, by omega⟩ ⟨i, by omega⟩ hi
theorem own_fin (q : Int64) (n f i : Nat) (hn : n ≤ 8) (hf : f ≤ 15) (hi : i ≤ 7) : i.toInt32 < n.toInt32 → ((own_inv ((own_be q n).length - f) f (own_be q n)).map Value.int).getD i.toInt32.toNatClampNeg (.int (0 : Int32)) = .int (if i.toInt32 < f.toInt32 then ((((q.toUInt64 >>> ((((n.toInt32 - (1 : Int32)) - i.toInt32) * (8 : Int32)) &&& 0x3f).toInt64.toUInt64).toInt64).toInt32).toInt8.toInt32) else ((((((q.toUInt64 >>> ((((n.toInt32 - (1 : Int32)) - i.toInt32) * (8 : Int32)) &&& 0x3f).toInt64.toUInt64).toInt64).toInt32).toInt8.toInt32) ^^^ (-1 : Int32)).toInt8.toInt32)) := by
  intro hlt
  rw [own_cmp _ _ (by omega) (by omega)] at hlt
  rw [(own_nat i (by omega)).2.1, own_getD, own_be_len, own_shx n i hn hlt]
  by_cases hfn : f ≤ n
  · rw [own_inv_at _ _ _ _ (by rw [own_be_len]; omega), own_be_at _ _ _ hlt]
    by_cases h : i < f
    · rw [if_neg (by omega), if_pos ((own_cmp _ _ (by omega) (by omega)).mpr h)]
      unfold own_by
      rw [own_nn]
    · rw [if_pos (by omega), if_neg (by rw [own_cmp _ _ (by omega) (by omega)]; exact h)]
      unfold own_neg own_by
      rw [own_nn, own_nn]
  · have e : n - f = 0 := by omega
    rw [e, own_inv, own_be_at _ _ _ hlt, if_pos ((own_cmp _ _ (by omega) (by omega)).mpr (by omega))]
    unfold own_by
    rw [own_nn]
theorem own_n9 (x : Int32) : ∃ n : Nat, n ≤ 8 ∧ (x &&& (2147483647 : Int32)) % (9 : Int32) = n.toInt32 := by
  have h := c_mask x 2147483647 31 (by decide) (by decide)
  have h2 := (c_irem (x &&& 2147483647) 9 9 rfl).1 (by omega)
  refine ⟨((x &&& (2147483647 : Int32)) % (9 : Int32)).toInt.toNat, by omega, ?_⟩
  rw [← Int32.toInt_inj, (own_nat _ (by omega)).2.2.2.2.2]
  omega
theorem own_f15 (x : Int32) : ∃ n : Nat, n ≤ 15 ∧ (x &&& (15 : Int32)) = n.toInt32 := by
  have h := c_mask x 15 4 (by decide) (by decide)
  refine ⟨(x &&& (15 : Int32)).toInt.toNat, by omega, ?_⟩
  rw [← Int32.toInt_inj, (own_nat _ (by omega)).2.2.2.2.2]
  omega
theorem pd_3 : parseMethodDescriptor "()V" = some ⟨[], none⟩ := by decide +kernel
theorem pd_4 : parseMethodDescriptor "(JI)V" = some ⟨[.long, .int], none⟩ := by decide +kernel
theorem pd_5 : parseMethodDescriptor "()I" = some ⟨[], some .int⟩ := by decide +kernel
theorem pd_6 : parseMethodDescriptor "()[B" = some ⟨[], some (.array .byte)⟩ := by decide +kernel
theorem pd_7 : parseMethodDescriptor "([BIIIJ)Z" = some ⟨[(.array .byte), .int, .int, .int, .long], some .boolean⟩ := by decide +kernel
theorem ef_rm0 (m : MethodId) (q1 : Int64) (p2 : Int32) (p3 : Int32) : entryFrame m #[(.long q1), (.int p2), (.int p3)] maxLocals = mkF m 0 #[.val (.long q1), .second, .val (.int p2), .val (.int p3), .unset, .unset, .unset, .unset] [] := by first | (simp [entryFrame, mkF, argsToLocals, Value.category, maxLocals]; done) | rfl
def Q0 (Z : State) (q1 : Int64) (p2 : Int32) (p3 : Int32) (h0 : Heap) (n0 : Nat) (v : Option Value) (h : Heap) (L : List Loc) : Prop := v = some (.int 1) ∧ Fr n0 L
set_option maxRecDepth 65536 in
set_option maxHeartbeats 40000000 in
theorem rm0 (l : Launch) (Z : State) (a0 : Array Value) (hw : ∀ d ∈ tables_1, d.before a0 Z = true) (ws : List Jvm.Cond) (q1 : Int64) (p2 : Int32) (p3 : Int32) (h0 : Heap) (n0 : Nat) (Z0 : n0 ≤ h0.size) :
    MetFree l x (head1 (Jvm.Cond.code x code maxLocals ret :: ws) room_1) (fun a U => a = #[(.long q1), (.int p2), (.int p3)] ∧ Z.Warmed39 U.vm ∧ U.heap = h0) (fun _ _ _ _ _ => True) (fun _ U o U' => ∃ v L, o = .returned v ∧ Q0 Z q1 p2 p3 h0 n0 v U'.heap L ∧ FrameEnd U o U' L room_1.cells room_1.slots) := by
  refine MetFree.of_bodySF (plainFor_of_name pn_2) hisR ?_
  intro p e s m args below meth c s₁ Bd hml0 hP hK
  obtain ⟨rfl, hZ, hh⟩ := hP
  have hx := Bd.exec
  have hby := Bd.bytes
  have hml : c.maxLocals = 8 := hml0
  have hown : s.vm.findClass "com/example/compokey/compokey/keys/ByteOutputInvertFromPinLaw" = some m.cls := findClass_of_methodNamed Bd.named
  have hnm := (name_of_methodNamed Bd.named Bd.method).1
  have X0 : Stand p l e room_1 s m #[(.long q1), (.int p2), (.int p3)] below meth c s₁ [] 0 0 := Stand.of_body Bd
  have e0 : s₁.heap = h0 := by rw [← hh, Bd.state]; rfl
  have N0 := Fr.nil n0
  show Goes p e s below (fun v h L => Q0 Z q1 p2 p3 h0 n0 v h L) room_1.cells room_1.slots (s₁.setTop (entryFrame m #[(.long q1), (.int p2), (.int p3)] maxLocals))
  refine Goes.st (U' := s₁.setTop (mkF m 0 #[.val (.long q1), .second, .val (.int p2), .val (.int p3), .unset, .unset, .unset, .unset] [])) (fun t k => castTop (ef_rm0 m q1 p2 p3) k) ?_
  refine Goes.st (U' := s₁.setTop (mkF m 1 #[.val (.long q1), .second, .val (.int p2), .val (.int p3), .unset, .unset, .unset, .unset] [(.int p2)])) (fun t k => XS.iloadN X0.here hx rfl (hb hby at_0) rfl k) ?_
  refine Goes.st (U' := s₁.setTop (mkF m 3 #[.val (.long q1), .second, .val (.int p2), .val (.int p3), .unset, .unset, .unset, .unset] [(.int (2147483647 : Int32)), (.int p2)])) (fun t k => X0.ldcInt hx hown (mvT hZ (hw _ (List.mem_of_getElem? (i := 0) rfl))) (g := (mkF m 1 #[.val (.long q1), .second, .val (.int p2), .val (.int p3), .unset, .unset, .unset, .unset] [(.int p2)])) rfl (hb hby at_1) t k) ?_
  refine Goes.st (U' := s₁.setTop (mkF m 4 #[.val (.long q1), .second, .val (.int p2), .val (.int p3), .unset, .unset, .unset, .unset] [(.int (p2 &&& (2147483647 : Int32)))])) (fun t k => XS.iand X0.here hx rfl (hb hby at_3) rfl k) ?_
  refine Goes.st (U' := s₁.setTop (mkF m 6 #[.val (.long q1), .second, .val (.int p2), .val (.int p3), .unset, .unset, .unset, .unset] [(.int (9 : Int32)), (.int (p2 &&& (2147483647 : Int32)))])) (fun t k => XS.bipush X0.here hx rfl (hb hby at_4) k) ?_
  refine Goes.st (U' := s₁.setTop (mkF m 7 #[.val (.long q1), .second, .val (.int p2), .val (.int p3), .unset, .unset, .unset, .unset] [(.int ((p2 &&& (2147483647 : Int32)) % (9 : Int32)))])) (fun t k => iremM X0 hx rfl (hb hby at_6) rfl (by decide : ¬ ((9 : Int32) = (0 : Int32))) k) ?_
  obtain ⟨n, hn8, en⟩ := own_n9 p2
  rw [(en : ((p2 &&& (2147483647 : Int32)) % (9 : Int32)) = (n.toInt32))]
  refine Goes.st (U' := s₁.setTop (mkF m 9 #[.val (.long q1), .second, .val (.int p2), .val (.int p3), .val (.int (n.toInt32)), .unset, .unset, .unset] [])) (fun t k => XS.istore X0.here hx rfl (hb hby at_7) rfl (l' := #[.val (.long q1), .second, .val (.int p2), .val (.int p3), .val (.int (n.toInt32)), .unset, .unset, .unset]) rfl k) ?_
  refine Goes.st (U' := s₁.setTop (mkF m 10 #[.val (.long q1), .second, .val (.int p2), .val (.int p3), .val (.int (n.toInt32)), .unset, .unset, .unset] [(.int p3)])) (fun t k => XS.iloadN X0.here hx rfl (hb hby at_9) rfl k) ?_
  refine Goes.st (U' := s₁.setTop (mkF m 12 #[.val (.long q1), .second, .val (.int p2), .val (.int p3), .val (.int (n.toInt32)), .unset, .unset, .unset] [(.int (15 : Int32)), (.int p3)])) (fun t k => XS.bipush X0.here hx rfl (hb hby at_10) k) ?_
  refine Goes.st (U' := s₁.setTop (mkF m 13 #[.val (.long q1), .second, .val (.int p2), .val (.int p3), .val (.int (n.toInt32)), .unset, .unset, .unset] [(.int (p3 &&& (15 : Int32)))])) (fun t k => XS.iand X0.here hx rfl (hb hby at_12) rfl k) ?_
  obtain ⟨f, hf15, ef⟩ := own_f15 p3
  rw [(ef : (p3 &&& (15 : Int32)) = (f.toInt32))]
  have elen : (own_inv ((own_be q1 n).length - f) f (own_be q1 n)).length.toInt32 = n.toInt32 := by rw [own_inv_len, own_be_len]
  refine Goes.st (U' := s₁.setTop (mkF m 15 #[.val (.long q1), .second, .val (.int p2), .val (.int p3), .val (.int (n.toInt32)), .val (.int (f.toInt32)), .unset, .unset] [])) (fun t k => XS.istore X0.here hx rfl (hb hby at_13) rfl (l' := #[.val (.long q1), .second, .val (.int p2), .val (.int p3), .val (.int (n.toInt32)), .val (.int (f.toInt32)), .unset, .unset]) rfl k) ?_
  obtain ⟨T1, h1, X1, e1, E1, A1, D1, -, st1⟩ := newO X0 hx hZ hown (hw _ (List.mem_of_getElem? (i := 1) rfl)) (hw _ (List.mem_of_getElem? (i := 2) rfl)) (hw _ (List.mem_of_getElem? (i := 3) rfl)) e0 (g := (mkF m 15 #[.val (.long q1), .second, .val (.int p2), .val (.int p3), .val (.int (n.toInt32)), .val (.int (f.toInt32)), .unset, .unset] [])) rfl (hb hby at_15) (by decide) (by decide)
  obtain ⟨b1, g1⟩ : ∃ z, z = h0.size := ⟨_, rfl⟩
  rw [← g1] at A1 D1 st1
  have g_b1 : n0 ≤ b1 := Nat.le_trans Z0 (Nat.le_of_eq g1.symm)
  have F_bytes_b1 : Fld Z h1 b1 "com/example/compokey/compokey/keys/ByteOutput" "bytes" "[B" .null := D1 (Or.inl (hw _ (List.mem_of_getElem? (i := 12) rfl))) (ty := (.array .byte)) (by decide)
  have F_size_b1 : Fld Z h1 b1 "com/example/compokey/compokey/keys/ByteOutput" "size" "I" (.int (0 : Int32)) := D1 (Or.inl (hw _ (List.mem_of_getElem? (i := 19) rfl))) (ty := .int) (by decide)
  refine Goes.st (U' := T1.setTop (mkF m 18 #[.val (.long q1), .second, .val (.int p2), .val (.int p3), .val (.int (n.toInt32)), .val (.int (f.toInt32)), .unset, .unset] [(.ref b1)])) (fun t k => st1 t k) ?_
  refine Goes.st (U' := T1.setTop (mkF m 19 #[.val (.long q1), .second, .val (.int p2), .val (.int p3), .val (.int (n.toInt32)), .val (.int (f.toInt32)), .unset, .unset] [(.ref b1), (.ref b1)])) (fun t k => XS.dup X1.here hx rfl (hb hby at_18) rfl rfl k) ?_
  obtain ⟨_, _, ⟨T2, L2, k2, n2⟩, -, X2, ⟨Lc2, hQ2, l2, y2, z2⟩, st2⟩ := X1.specialBack hx (y := (⟨"com/example/compokey/compokey/keys/ByteOutput", "<init>", "()V"⟩ : MethodName)) rfl hown (mvT hZ (hw _ (List.mem_of_getElem? (i := 4) rfl))) (mvT hZ (hw _ (List.mem_of_getElem? (i := 5) rfl))) (mvT hZ (hw _ (List.mem_of_getElem? (i := 6) rfl))) (by decide) (backOf (W := 1) (rm1 l Z a0 hw [] b1 h1 n0 (Nat.le_trans Z0 E1.1) (A1) (F_bytes_b1) (F_size_b1) (g_b1)) hZ (hw _ (List.mem_of_getElem? (i := 6) rfl)) (hw _ (List.mem_of_getElem? (i := 3) rfl)) (by decide) (by decide)) (g := (mkF m 19 #[.val (.long q1), .second, .val (.int p2), .val (.int p3), .val (.int (n.toInt32)), .val (.int (f.toInt32)), .unset, .unset] [(.ref b1), (.ref b1)])) rfl (by rw [hml]; rfl) (Steps.refl _) (a := b1) (argsL := []) (rest := [(.ref b1)]) (lenOf pd_3 rfl) rfl (by show 2 * 0 + _ ≤ _; exact Nat.le_of_eq rfl) (hb hby at_19) (fun _ _ => ⟨rfl, e1, (by decide : 1 + 1 ≤ _), (by decide : 2 + 64 ≤ _)⟩)
  dsimp only [Pt.U, Pt.locs, Pt.cells, Pt.slots] at X2 l2 y2 z2 st2 hQ2
  subst l2 y2 z2
  obtain ⟨rfl, N2q, K2, ar2, ka2, I2, g_ar2, u2⟩ := hQ2
  have N2 := Fr.app N0 N2q
  have ne_b1_ar2 := I2.2.2.2.2.2
  refine Goes.tr (U' := T2.setTop (mkF m 22 #[.val (.long q1), .second, .val (.int p2), .val (.int p3), .val (.int (n.toInt32)), .val (.int (f.toInt32)), .unset, .unset] [(.ref b1)])) st2 ?_
  refine Goes.st (U' := T2.setTop (mkF m 24 #[.val (.long q1), .second, .val (.int p2), .val (.int p3), .val (.int (n.toInt32)), .val (.int (f.toInt32)), .val (.ref b1), .unset] [])) (fun t k => XS.astore X2.here hx rfl (hb hby at_22) rfl rfl (l' := #[.val (.long q1), .second, .val (.int p2), .val (.int p3), .val (.int (n.toInt32)), .val (.int (f.toInt32)), .val (.ref b1), .unset]) rfl k) ?_
  refine Goes.st (U' := T2.setTop (mkF m 26 #[.val (.long q1), .second, .val (.int p2), .val (.int p3), .val (.int (n.toInt32)), .val (.int (f.toInt32)), .val (.ref b1), .unset] [(.ref b1)])) (fun t k => XS.aload X2.here hx rfl (hb hby at_24) rfl rfl k) ?_
  refine Goes.st (U' := T2.setTop (mkF m 27 #[.val (.long q1), .second, .val (.int p2), .val (.int p3), .val (.int (n.toInt32)), .val (.int (f.toInt32)), .val (.ref b1), .unset] [(.long q1), (.ref b1)])) (fun t k => XS.lloadN X2.here hx rfl (hb hby at_26) rfl k) ?_
  refine Goes.st (U' := T2.setTop (mkF m 29 #[.val (.long q1), .second, .val (.int p2), .val (.int p3), .val (.int (n.toInt32)), .val (.int (f.toInt32)), .val (.ref b1), .unset] [(.int (n.toInt32)), (.long q1), (.ref b1)])) (fun t k => XS.iload X2.here hx rfl (hb hby at_27) rfl k) ?_
  obtain ⟨cq3, kq3, q3a, q3b, q3c⟩ := isOf hZ rfl I2.1
  obtain ⟨_, _, ⟨T3, L3, k3, n3⟩, -, X3, ⟨Lc3, hQ3, l3, y3, z3⟩, st3⟩ := X2.virtualBack hx (y := (⟨"com/example/compokey/compokey/keys/ByteOutput", "bigEndian", "(JI)V"⟩ : MethodName)) (z := (⟨"com/example/compokey/compokey/keys/ByteOutput", "bigEndian", "(JI)V"⟩ : MethodName)) hown (mvT hZ (hw _ (List.mem_of_getElem? (i := 13) rfl))) (mvT hZ (hw _ (List.mem_of_getElem? (i := 14) rfl))) (notFace_of_selects (args := #[]) (mvT hZ (hw _ (List.mem_of_getElem? (i := 16) rfl)))) (mvT hZ (hw _ (List.mem_of_getElem? (i := 16) rfl))) (mvT hZ (hw _ (List.mem_of_getElem? (i := 15) rfl))) (by decide) (backOf (W := 0) (rm3 l Z a0 hw [] b1 q1 (n.toInt32) ar2 ka2 n T2.heap n0 (Nat.le_trans (Nat.le_trans Z0 E1.1) K2.1) (I2) (hn8) (rfl) (g_b1) (g_ar2)) hZ (hw _ (List.mem_of_getElem? (i := 17) rfl)) (hw _ (List.mem_of_getElem? (i := 3) rfl)) (by decide) (by decide)) q3a q3c (g := (mkF m 29 #[.val (.long q1), .second, .val (.int p2), .val (.int p3), .val (.int (n.toInt32)), .val (.int (f.toInt32)), .val (.ref b1), .unset] [(.int (n.toInt32)), (.long q1), (.ref b1)])) rfl (by rw [hml]; rfl) (Steps.refl _) (argsL := [(.long q1), (.int (n.toInt32))]) (rest := []) (lenOf pd_4 rfl) rfl (by show 2 * 0 + _ ≤ _; exact Nat.le_of_eq rfl) (hb hby at_29) (fun _ _ => ⟨rfl, rfl, (by decide : 2 + 0 ≤ _), (by decide : 66 + 0 ≤ _)⟩)
  dsimp only [Pt.U, Pt.locs, Pt.cells, Pt.slots] at X3 l3 y3 z3 st3 hQ3
  subst l3 y3 z3
  obtain ⟨rfl, N3q, K3, I3⟩ := hQ3
  have N3 := Fr.app N2 N3q
  refine Goes.tr (U' := T3.setTop (mkF m 32 #[.val (.long q1), .second, .val (.int p2), .val (.int p3), .val (.int (n.toInt32)), .val (.int (f.toInt32)), .val (.ref b1), .unset] [])) st3 ?_
  refine Goes.st (U' := T3.setTop (mkF m 34 #[.val (.long q1), .second, .val (.int p2), .val (.int p3), .val (.int (n.toInt32)), .val (.int (f.toInt32)), .val (.ref b1), .unset] [(.ref b1)])) (fun t k => XS.aload X3.here hx rfl (hb hby at_32) rfl rfl k) ?_
  refine Goes.st (U' := T3.setTop (mkF m 36 #[.val (.long q1), .second, .val (.int p2), .val (.int p3), .val (.int (n.toInt32)), .val (.int (f.toInt32)), .val (.ref b1), .unset] [(.int (f.toInt32)), (.ref b1)])) (fun t k => XS.iload X3.here hx rfl (hb hby at_34) rfl k) ?_
  obtain ⟨cq4, kq4, q4a, q4b, q4c⟩ := isOf hZ rfl I3.1
  obtain ⟨_, _, ⟨T4, L4, k4, n4⟩, -, X4, ⟨Lc4, hQ4, l4, y4, z4⟩, st4⟩ := X3.virtualBack hx (y := (⟨"com/example/compokey/compokey/keys/ByteOutput", "invertFrom", "(I)V"⟩ : MethodName)) (z := (⟨"com/example/compokey/compokey/keys/ByteOutput", "invertFrom", "(I)V"⟩ : MethodName)) hown (mvT hZ (hw _ (List.mem_of_getElem? (i := 24) rfl))) (mvT hZ (hw _ (List.mem_of_getElem? (i := 25) rfl))) (notFace_of_selects (args := #[]) (mvT hZ (hw _ (List.mem_of_getElem? (i := 27) rfl)))) (mvT hZ (hw _ (List.mem_of_getElem? (i := 27) rfl))) (mvT hZ (hw _ (List.mem_of_getElem? (i := 26) rfl))) (by decide) (backOf (W := 0) (rm5 l Z a0 hw [] b1 (f.toInt32) ar2 ka2 (own_be q1 n) f T3.heap n0 (Nat.le_trans (Nat.le_trans (Nat.le_trans Z0 E1.1) K2.1) K3.1) (I3) ((by rw [own_be_len]; exact hn8)) (rfl) (hf15) (g_b1) (g_ar2)) hZ (hw _ (List.mem_of_getElem? (i := 28) rfl)) (hw _ (List.mem_of_getElem? (i := 3) rfl)) (by decide) (by decide)) q4a q4c (g := (mkF m 36 #[.val (.long q1), .second, .val (.int p2), .val (.int p3), .val (.int (n.toInt32)), .val (.int (f.toInt32)), .val (.ref b1), .unset] [(.int (f.toInt32)), (.ref b1)])) rfl (by rw [hml]; rfl) (Steps.refl _) (argsL := [(.int (f.toInt32))]) (rest := []) (lenOf pd_0 rfl) rfl (by show 2 * 0 + _ ≤ _; exact Nat.le_of_eq rfl) (hb hby at_36) (fun _ _ => ⟨rfl, rfl, (by decide : 2 + 0 ≤ _), (by decide : 66 + 0 ≤ _)⟩)
  dsimp only [Pt.U, Pt.locs, Pt.cells, Pt.slots] at X4 l4 y4 z4 st4 hQ4
  subst l4 y4 z4
  obtain ⟨rfl, N4q, K4, I4⟩ := hQ4
  have N4 := Fr.app N3 N4q
  refine Goes.tr (U' := T4.setTop (mkF m 39 #[.val (.long q1), .second, .val (.int p2), .val (.int p3), .val (.int (n.toInt32)), .val (.int (f.toInt32)), .val (.ref b1), .unset] [])) st4 ?_
  refine Goes.st (U' := T4.setTop (mkF m 41 #[.val (.long q1), .second, .val (.int p2), .val (.int p3), .val (.int (n.toInt32)), .val (.int (f.toInt32)), .val (.ref b1), .unset] [(.ref b1)])) (fun t k => XS.aload X4.here hx rfl (hb hby at_39) rfl rfl k) ?_
  obtain ⟨cq5, kq5, q5a, q5b, q5c⟩ := isOf hZ rfl I4.1
  obtain ⟨_, _, ⟨T5, L5, k5, n5⟩, -, X5, ⟨Lc5, hQ5, l5, y5, z5⟩, st5⟩ := X4.virtualBack hx (y := (⟨"com/example/compokey/compokey/keys/ByteOutput", "size", "()I"⟩ : MethodName)) (z := (⟨"com/example/compokey/compokey/keys/ByteOutput", "size", "()I"⟩ : MethodName)) hown (mvT hZ (hw _ (List.mem_of_getElem? (i := 29) rfl))) (mvT hZ (hw _ (List.mem_of_getElem? (i := 30) rfl))) (notFace_of_selects (args := #[]) (mvT hZ (hw _ (List.mem_of_getElem? (i := 32) rfl)))) (mvT hZ (hw _ (List.mem_of_getElem? (i := 32) rfl))) (mvT hZ (hw _ (List.mem_of_getElem? (i := 31) rfl))) (by decide) (backOf (W := 0) (rm6 l Z a0 hw [] b1 ar2 ka2 (own_inv ((own_be q1 n).length - f) f (own_be q1 n)) T4.heap n0 (Nat.le_trans (Nat.le_trans (Nat.le_trans (Nat.le_trans Z0 E1.1) K2.1) K3.1) K4.1) (I4)) hZ (hw _ (List.mem_of_getElem? (i := 33) rfl)) (hw _ (List.mem_of_getElem? (i := 3) rfl)) (by decide) (by decide)) q5a q5c (g := (mkF m 41 #[.val (.long q1), .second, .val (.int p2), .val (.int p3), .val (.int (n.toInt32)), .val (.int (f.toInt32)), .val (.ref b1), .unset] [(.ref b1)])) rfl (by rw [hml]; rfl) (Steps.refl _) (argsL := []) (rest := []) (lenOf pd_5 rfl) rfl (by show 2 * 0 + _ ≤ _; exact Nat.le_of_eq rfl) (hb hby at_41) (fun _ _ => ⟨rfl, rfl, (by decide : 2 + 0 ≤ _), (by decide : 66 + 0 ≤ _)⟩)
  dsimp only [Pt.U, Pt.locs, Pt.cells, Pt.slots] at X5 l5 y5 z5 st5 hQ5
  subst l5 y5 z5
  obtain ⟨rfl, N5q, e5⟩ := hQ5
  have N5 := Fr.app N4 N5q
  refine Goes.tr (U' := T5.setTop (mkF m 44 #[.val (.long q1), .second, .val (.int p2), .val (.int p3), .val (.int (n.toInt32)), .val (.int (f.toInt32)), .val (.ref b1), .unset] [(.int ((own_inv ((own_be q1 n).length - f) f (own_be q1 n)).length.toInt32))])) st5 ?_
  refine Goes.st (U' := T5.setTop (mkF m 46 #[.val (.long q1), .second, .val (.int p2), .val (.int p3), .val (.int (n.toInt32)), .val (.int (f.toInt32)), .val (.ref b1), .unset] [(.int (n.toInt32)), (.int ((own_inv ((own_be q1 n).length - f) f (own_be q1 n)).length.toInt32))])) (fun t k => XS.iload X5.here hx rfl (hb hby at_44) rfl k) ?_
  refine Goes.st (U' := T5.setTop (mkF m 51 #[.val (.long q1), .second, .val (.int p2), .val (.int p3), .val (.int (n.toInt32)), .val (.int (f.toInt32)), .val (.ref b1), .unset] [])) (fun t k => XS.icmpYes X5.here hx rfl (pc0 := 46) (pc' := 51) rfl (hb hby at_46) rfl (teq (elen : ((own_inv ((own_be q1 n).length - f) f (own_be q1 n)).length.toInt32) = (n.toInt32))).1 (by decide) (by decide) k) ?_
  refine Goes.st (U' := T5.setTop (mkF m 53 #[.val (.long q1), .second, .val (.int p2), .val (.int p3), .val (.int (n.toInt32)), .val (.int (f.toInt32)), .val (.ref b1), .unset] [(.ref b1)])) (fun t k => XS.aload X5.here hx rfl (hb hby at_51) rfl rfl k) ?_
  obtain ⟨cq6, kq6, q6a, q6b, q6c⟩ := isOf hZ e5 I4.1
  obtain ⟨_, _, ⟨T6, L6, k6, n6⟩, -, X6, ⟨Lc6, hQ6, l6, y6, z6⟩, st6⟩ := X5.virtualBack hx (y := (⟨"com/example/compokey/compokey/keys/ByteOutput", "toByteArray", "()[B"⟩ : MethodName)) (z := (⟨"com/example/compokey/compokey/keys/ByteOutput", "toByteArray", "()[B"⟩ : MethodName)) hown (mvT hZ (hw _ (List.mem_of_getElem? (i := 34) rfl))) (mvT hZ (hw _ (List.mem_of_getElem? (i := 35) rfl))) (notFace_of_selects (args := #[]) (mvT hZ (hw _ (List.mem_of_getElem? (i := 37) rfl)))) (mvT hZ (hw _ (List.mem_of_getElem? (i := 37) rfl))) (mvT hZ (hw _ (List.mem_of_getElem? (i := 36) rfl))) (by decide) (backOf (W := 0) (rm7 l Z a0 hw [] b1 ar2 ka2 (own_inv ((own_be q1 n).length - f) f (own_be q1 n)) n T4.heap n0 (Nat.le_trans (Nat.le_trans (Nat.le_trans (Nat.le_trans Z0 E1.1) K2.1) K3.1) K4.1) (I4) (hn8) ((by rw [own_inv_len, own_be_len]))) hZ (hw _ (List.mem_of_getElem? (i := 38) rfl)) (hw _ (List.mem_of_getElem? (i := 3) rfl)) (by decide) (by decide)) q6a q6c (g := (mkF m 53 #[.val (.long q1), .second, .val (.int p2), .val (.int p3), .val (.int (n.toInt32)), .val (.int (f.toInt32)), .val (.ref b1), .unset] [(.ref b1)])) rfl (by rw [hml]; rfl) (Steps.refl _) (argsL := []) (rest := []) (lenOf pd_6 rfl) rfl (by show 2 * 0 + _ ≤ _; exact Nat.le_of_eq rfl) (hb hby at_53) (fun _ _ => ⟨rfl, e5, (by decide : 2 + 1 ≤ _), (by decide : 66 + 8 ≤ _)⟩)
  dsimp only [Pt.U, Pt.locs, Pt.cells, Pt.slots] at X6 l6 y6 z6 st6 hQ6
  subst l6 y6 z6
  obtain ⟨nb6, kb6, rfl, N6q, K6, V_nb6, E_nb6, g_nb6, u6⟩ := hQ6
  have N6 := Fr.app N5 N6q
  refine Goes.tr (U' := T6.setTop (mkF m 56 #[.val (.long q1), .second, .val (.int p2), .val (.int p3), .val (.int (n.toInt32)), .val (.int (f.toInt32)), .val (.ref b1), .unset] [(.ref nb6)])) st6 ?_
  refine Goes.st (U' := T6.setTop (mkF m 58 #[.val (.long q1), .second, .val (.int p2), .val (.int p3), .val (.int (n.toInt32)), .val (.int (f.toInt32)), .val (.ref b1), .val (.ref nb6)] [])) (fun t k => XS.astore X6.here hx rfl (hb hby at_56) rfl rfl (l' := #[.val (.long q1), .second, .val (.int p2), .val (.int p3), .val (.int (n.toInt32)), .val (.int (f.toInt32)), .val (.ref b1), .val (.ref nb6)]) rfl k) ?_
  refine Goes.st (U' := T6.setTop (mkF m 60 #[.val (.long q1), .second, .val (.int p2), .val (.int p3), .val (.int (n.toInt32)), .val (.int (f.toInt32)), .val (.ref b1), .val (.ref nb6)] [(.ref nb6)])) (fun t k => XS.aload X6.here hx rfl (hb hby at_58) rfl rfl k) ?_
  have Vx7 := V_nb6
  obtain ⟨cl7, Ar7, -, S7, Nn7, -, -⟩ := Vx7
  refine Goes.st (U' := T6.setTop (mkF m 61 #[.val (.long q1), .second, .val (.int p2), .val (.int p3), .val (.int (n.toInt32)), .val (.int (f.toInt32)), .val (.ref b1), .val (.ref nb6)] [(.int ((own_inv ((own_be q1 n).length - f) f (own_be q1 n)).length.toInt32))])) (fun t k => (X6.arraylength hx Ar7.1 (State.isArrayOf_alike hZ.alike Ar7.2.1) (g := (mkF m 60 #[.val (.long q1), .second, .val (.int p2), .val (.int p3), .val (.int (n.toInt32)), .val (.int (f.toInt32)), .val (.ref b1), .val (.ref nb6)] [(.ref nb6)])) rfl rfl (hb hby at_60) t (by rw [len_of S7 Nn7]; exact k))) ?_
  refine Goes.st (U' := T6.setTop (mkF m 63 #[.val (.long q1), .second, .val (.int p2), .val (.int p3), .val (.int (n.toInt32)), .val (.int (f.toInt32)), .val (.ref b1), .val (.ref nb6)] [(.int (n.toInt32)), (.int ((own_inv ((own_be q1 n).length - f) f (own_be q1 n)).length.toInt32))])) (fun t k => XS.iload X6.here hx rfl (hb hby at_61) rfl k) ?_
  refine Goes.st (U' := T6.setTop (mkF m 68 #[.val (.long q1), .second, .val (.int p2), .val (.int p3), .val (.int (n.toInt32)), .val (.int (f.toInt32)), .val (.ref b1), .val (.ref nb6)] [])) (fun t k => XS.icmpYes X6.here hx rfl (pc0 := 63) (pc' := 68) rfl (hb hby at_63) rfl (teq (elen : ((own_inv ((own_be q1 n).length - f) f (own_be q1 n)).length.toInt32) = (n.toInt32))).1 (by decide) (by decide) k) ?_
  refine Goes.st (U' := T6.setTop (mkF m 70 #[.val (.long q1), .second, .val (.int p2), .val (.int p3), .val (.int (n.toInt32)), .val (.int (f.toInt32)), .val (.ref b1), .val (.ref nb6)] [(.ref nb6)])) (fun t k => XS.aload X6.here hx rfl (hb hby at_68) rfl rfl k) ?_
  refine Goes.st (U' := T6.setTop (mkF m 71 #[.val (.long q1), .second, .val (.int p2), .val (.int p3), .val (.int (n.toInt32)), .val (.int (f.toInt32)), .val (.ref b1), .val (.ref nb6)] [(.int (0 : Int32)), (.ref nb6)])) (fun t k => XS.iconst X6.here hx rfl (hb hby at_70) k) ?_
  refine Goes.st (U' := T6.setTop (mkF m 73 #[.val (.long q1), .second, .val (.int p2), .val (.int p3), .val (.int (n.toInt32)), .val (.int (f.toInt32)), .val (.ref b1), .val (.ref nb6)] [(.int (n.toInt32)), (.int (0 : Int32)), (.ref nb6)])) (fun t k => XS.iload X6.here hx rfl (hb hby at_71) rfl k) ?_
  refine Goes.st (U' := T6.setTop (mkF m 75 #[.val (.long q1), .second, .val (.int p2), .val (.int p3), .val (.int (n.toInt32)), .val (.int (f.toInt32)), .val (.ref b1), .val (.ref nb6)] [(.int (f.toInt32)), (.int (n.toInt32)), (.int (0 : Int32)), (.ref nb6)])) (fun t k => XS.iload X6.here hx rfl (hb hby at_73) rfl k) ?_
  refine Goes.st (U' := T6.setTop (mkF m 76 #[.val (.long q1), .second, .val (.int p2), .val (.int p3), .val (.int (n.toInt32)), .val (.int (f.toInt32)), .val (.ref b1), .val (.ref nb6)] [(.long q1), (.int (f.toInt32)), (.int (n.toInt32)), (.int (0 : Int32)), (.ref nb6)])) (fun t k => XS.lloadN X6.here hx rfl (hb hby at_75) rfl k) ?_
  obtain ⟨_, _, ⟨T8, L8, k8, n8⟩, -, X8, ⟨Lc8, hQ8, l8, y8, z8⟩, st8⟩ := Jvm.LawKit.callS X6 hx (y := (⟨"com/example/compokey/compokey/keys/ByteOutputInvertFromPinLaw", "ok", "([BIIIJ)Z"⟩ : MethodName)) hown (mvT hZ (hw _ (List.mem_of_getElem? (i := 51) rfl))) (mvT hZ (hw _ (List.mem_of_getElem? (i := 52) rfl))) (mvT hZ (hw _ (List.mem_of_getElem? (i := 53) rfl))) (mvT hZ (hw _ (List.mem_of_getElem? (i := 54) rfl))) (by decide) (backOf (W := 0) (rm10 l Z a0 hw [] nb6 (0 : Int32) (n.toInt32) (f.toInt32) q1 kb6 ((own_inv ((own_be q1 n).length - f) f (own_be q1 n)).map .int) T6.heap n0 (Nat.le_trans (Nat.le_trans (Nat.le_trans (Nat.le_trans (Nat.le_trans Z0 E1.1) K2.1) K3.1) K4.1) K6.1) ((elen ▸ V_nb6)) ((by decide)) ((own_fin q1 n f 0 hn8 hf15 (by omega)))) hZ (hw _ (List.mem_of_getElem? (i := 54) rfl)) (hw _ (List.mem_of_getElem? (i := 53) rfl)) (by decide) (by decide)) (g := (mkF m 76 #[.val (.long q1), .second, .val (.int p2), .val (.int p3), .val (.int (n.toInt32)), .val (.int (f.toInt32)), .val (.ref b1), .val (.ref nb6)] [(.long q1), (.int (f.toInt32)), (.int (n.toInt32)), (.int (0 : Int32)), (.ref nb6)])) rfl (by rw [hml]; rfl) (argsL := [(.ref nb6), (.int (0 : Int32)), (.int (n.toInt32)), (.int (f.toInt32)), (.long q1)]) (rest := []) (lenOf pd_7 rfl) rfl (by show 2 * 0 + _ ≤ _; exact Nat.le_of_eq rfl) (hb hby at_76) (fun _ _ => ⟨rfl, rfl, (by decide : 3 + 0 ≤ _), (by decide : 74 + 0 ≤ _)⟩)
  dsimp only [Pt.U, Pt.locs, Pt.cells, Pt.slots] at X8 l8 y8 z8 st8 hQ8
  subst l8 y8 z8
  obtain ⟨rfl, N8q, e8⟩ := hQ8
  have N8 := Fr.app N6 N8q
  refine Goes.st (U' := T8.setTop (mkF m 79 #[.val (.long q1), .second, .val (.int p2), .val (.int p3), .val (.int (n.toInt32)), .val (.int (f.toInt32)), .val (.ref b1), .val (.ref nb6)] [(.int (1 : Int32))])) st8 ?_
  refine Goes.st (U' := T8.setTop (mkF m 82 #[.val (.long q1), .second, .val (.int p2), .val (.int p3), .val (.int (n.toInt32)), .val (.int (f.toInt32)), .val (.ref b1), .val (.ref nb6)] [])) (fun t k => XS.ifNo X8.here hx rfl (hb hby at_79) rfl ((if0 _ _).trans (feq (by decide : ¬ ((1 : Int32) = (0 : Int32)))).1) k) ?_
  refine Goes.st (U' := T8.setTop (mkF m 84 #[.val (.long q1), .second, .val (.int p2), .val (.int p3), .val (.int (n.toInt32)), .val (.int (f.toInt32)), .val (.ref b1), .val (.ref nb6)] [(.ref nb6)])) (fun t k => XS.aload X8.here hx rfl (hb hby at_82) rfl rfl k) ?_
  refine Goes.st (U' := T8.setTop (mkF m 85 #[.val (.long q1), .second, .val (.int p2), .val (.int p3), .val (.int (n.toInt32)), .val (.int (f.toInt32)), .val (.ref b1), .val (.ref nb6)] [(.int (1 : Int32)), (.ref nb6)])) (fun t k => XS.iconst X8.here hx rfl (hb hby at_84) k) ?_
  refine Goes.st (U' := T8.setTop (mkF m 87 #[.val (.long q1), .second, .val (.int p2), .val (.int p3), .val (.int (n.toInt32)), .val (.int (f.toInt32)), .val (.ref b1), .val (.ref nb6)] [(.int (n.toInt32)), (.int (1 : Int32)), (.ref nb6)])) (fun t k => XS.iload X8.here hx rfl (hb hby at_85) rfl k) ?_
  refine Goes.st (U' := T8.setTop (mkF m 89 #[.val (.long q1), .second, .val (.int p2), .val (.int p3), .val (.int (n.toInt32)), .val (.int (f.toInt32)), .val (.ref b1), .val (.ref nb6)] [(.int (f.toInt32)), (.int (n.toInt32)), (.int (1 : Int32)), (.ref nb6)])) (fun t k => XS.iload X8.here hx rfl (hb hby at_87) rfl k) ?_
  refine Goes.st (U' := T8.setTop (mkF m 90 #[.val (.long q1), .second, .val (.int p2), .val (.int p3), .val (.int (n.toInt32)), .val (.int (f.toInt32)), .val (.ref b1), .val (.ref nb6)] [(.long q1), (.int (f.toInt32)), (.int (n.toInt32)), (.int (1 : Int32)), (.ref nb6)])) (fun t k => XS.lloadN X8.here hx rfl (hb hby at_89) rfl k) ?_
  obtain ⟨_, _, ⟨T9, L9, k9, n9⟩, -, X9, ⟨Lc9, hQ9, l9, y9, z9⟩, st9⟩ := Jvm.LawKit.callS X8 hx (y := (⟨"com/example/compokey/compokey/keys/ByteOutputInvertFromPinLaw", "ok", "([BIIIJ)Z"⟩ : MethodName)) hown (mvT hZ (hw _ (List.mem_of_getElem? (i := 51) rfl))) (mvT hZ (hw _ (List.mem_of_getElem? (i := 52) rfl))) (mvT hZ (hw _ (List.mem_of_getElem? (i := 53) rfl))) (mvT hZ (hw _ (List.mem_of_getElem? (i := 54) rfl))) (by decide) (backOf (W := 0) (rm10 l Z a0 hw [] nb6 (1 : Int32) (n.toInt32) (f.toInt32) q1 kb6 ((own_inv ((own_be q1 n).length - f) f (own_be q1 n)).map .int) T6.heap n0 (Nat.le_trans (Nat.le_trans (Nat.le_trans (Nat.le_trans (Nat.le_trans Z0 E1.1) K2.1) K3.1) K4.1) K6.1) ((elen ▸ V_nb6)) ((by decide)) ((own_fin q1 n f 1 hn8 hf15 (by omega)))) hZ (hw _ (List.mem_of_getElem? (i := 54) rfl)) (hw _ (List.mem_of_getElem? (i := 53) rfl)) (by decide) (by decide)) (g := (mkF m 90 #[.val (.long q1), .second, .val (.int p2), .val (.int p3), .val (.int (n.toInt32)), .val (.int (f.toInt32)), .val (.ref b1), .val (.ref nb6)] [(.long q1), (.int (f.toInt32)), (.int (n.toInt32)), (.int (1 : Int32)), (.ref nb6)])) rfl (by rw [hml]; rfl) (argsL := [(.ref nb6), (.int (1 : Int32)), (.int (n.toInt32)), (.int (f.toInt32)), (.long q1)]) (rest := []) (lenOf pd_7 rfl) rfl (by show 2 * 0 + _ ≤ _; exact Nat.le_of_eq rfl) (hb hby at_90) (fun _ _ => ⟨rfl, e8, (by decide : 3 + 0 ≤ _), (by decide : 74 + 0 ≤ _)⟩)
  dsimp only [Pt.U, Pt.locs, Pt.cells, Pt.slots] at X9 l9 y9 z9 st9 hQ9
  subst l9 y9 z9
  obtain ⟨rfl, N9q, e9⟩ := hQ9
  have N9 := Fr.app N8 N9q
  refine Goes.st (U' := T9.setTop (mkF m 93 #[.val (.long q1), .second, .val (.int p2), .val (.int p3), .val (.int (n.toInt32)), .val (.int (f.toInt32)), .val (.ref b1), .val (.ref nb6)] [(.int (1 : Int32))])) st9 ?_
  refine Goes.st (U' := T9.setTop (mkF m 96 #[.val (.long q1), .second, .val (.int p2), .val (.int p3), .val (.int (n.toInt32)), .val (.int (f.toInt32)), .val (.ref b1), .val (.ref nb6)] [])) (fun t k => XS.ifNo X9.here hx rfl (hb hby at_93) rfl ((if0 _ _).trans (feq (by decide : ¬ ((1 : Int32) = (0 : Int32)))).1) k) ?_
  refine Goes.st (U' := T9.setTop (mkF m 98 #[.val (.long q1), .second, .val (.int p2), .val (.int p3), .val (.int (n.toInt32)), .val (.int (f.toInt32)), .val (.ref b1), .val (.ref nb6)] [(.ref nb6)])) (fun t k => XS.aload X9.here hx rfl (hb hby at_96) rfl rfl k) ?_
  refine Goes.st (U' := T9.setTop (mkF m 99 #[.val (.long q1), .second, .val (.int p2), .val (.int p3), .val (.int (n.toInt32)), .val (.int (f.toInt32)), .val (.ref b1), .val (.ref nb6)] [(.int (2 : Int32)), (.ref nb6)])) (fun t k => XS.iconst X9.here hx rfl (hb hby at_98) k) ?_
  refine Goes.st (U' := T9.setTop (mkF m 101 #[.val (.long q1), .second, .val (.int p2), .val (.int p3), .val (.int (n.toInt32)), .val (.int (f.toInt32)), .val (.ref b1), .val (.ref nb6)] [(.int (n.toInt32)), (.int (2 : Int32)), (.ref nb6)])) (fun t k => XS.iload X9.here hx rfl (hb hby at_99) rfl k) ?_
  refine Goes.st (U' := T9.setTop (mkF m 103 #[.val (.long q1), .second, .val (.int p2), .val (.int p3), .val (.int (n.toInt32)), .val (.int (f.toInt32)), .val (.ref b1), .val (.ref nb6)] [(.int (f.toInt32)), (.int (n.toInt32)), (.int (2 : Int32)), (.ref nb6)])) (fun t k => XS.iload X9.here hx rfl (hb hby at_101) rfl k) ?_
  refine Goes.st (U' := T9.setTop (mkF m 104 #[.val (.long q1), .second, .val (.int p2), .val (.int p3), .val (.int (n.toInt32)), .val (.int (f.toInt32)), .val (.ref b1), .val (.ref nb6)] [(.long q1), (.int (f.toInt32)), (.int (n.toInt32)), (.int (2 : Int32)), (.ref nb6)])) (fun t k => XS.lloadN X9.here hx rfl (hb hby at_103) rfl k) ?_
  obtain ⟨_, _, ⟨T10, L10, k10, n10⟩, -, X10, ⟨Lc10, hQ10, l10, y10, z10⟩, st10⟩ := Jvm.LawKit.callS X9 hx (y := (⟨"com/example/compokey/compokey/keys/ByteOutputInvertFromPinLaw", "ok", "([BIIIJ)Z"⟩ : MethodName)) hown (mvT hZ (hw _ (List.mem_of_getElem? (i := 51) rfl))) (mvT hZ (hw _ (List.mem_of_getElem? (i := 52) rfl))) (mvT hZ (hw _ (List.mem_of_getElem? (i := 53) rfl))) (mvT hZ (hw _ (List.mem_of_getElem? (i := 54) rfl))) (by decide) (backOf (W := 0) (rm10 l Z a0 hw [] nb6 (2 : Int32) (n.toInt32) (f.toInt32) q1 kb6 ((own_inv ((own_be q1 n).length - f) f (own_be q1 n)).map .int) T6.heap n0 (Nat.le_trans (Nat.le_trans (Nat.le_trans (Nat.le_trans (Nat.le_trans Z0 E1.1) K2.1) K3.1) K4.1) K6.1) ((elen ▸ V_nb6)) ((by decide)) ((own_fin q1 n f 2 hn8 hf15 (by omega)))) hZ (hw _ (List.mem_of_getElem? (i := 54) rfl)) (hw _ (List.mem_of_getElem? (i := 53) rfl)) (by decide) (by decide)) (g := (mkF m 104 #[.val (.long q1), .second, .val (.int p2), .val (.int p3), .val (.int (n.toInt32)), .val (.int (f.toInt32)), .val (.ref b1), .val (.ref nb6)] [(.long q1), (.int (f.toInt32)), (.int (n.toInt32)), (.int (2 : Int32)), (.ref nb6)])) rfl (by rw [hml]; rfl) (argsL := [(.ref nb6), (.int (2 : Int32)), (.int (n.toInt32)), (.int (f.toInt32)), (.long q1)]) (rest := []) (lenOf pd_7 rfl) rfl (by show 2 * 0 + _ ≤ _; exact Nat.le_of_eq rfl) (hb hby at_104) (fun _ _ => ⟨rfl, e9, (by decide : 3 + 0 ≤ _), (by decide : 74 + 0 ≤ _)⟩)
  dsimp only [Pt.U, Pt.locs, Pt.cells, Pt.slots] at X10 l10 y10 z10 st10 hQ10
  subst l10 y10 z10
  obtain ⟨rfl, N10q, e10⟩ := hQ10
  have N10 := Fr.app N9 N10q
  refine Goes.st (U' := T10.setTop (mkF m 107 #[.val (.long q1), .second, .val (.int p2), .val (.int p3), .val (.int (n.toInt32)), .val (.int (f.toInt32)), .val (.ref b1), .val (.ref nb6)] [(.int (1 : Int32))])) st10 ?_
  refine Goes.st (U' := T10.setTop (mkF m 110 #[.val (.long q1), .second, .val (.int p2), .val (.int p3), .val (.int (n.toInt32)), .val (.int (f.toInt32)), .val (.ref b1), .val (.ref nb6)] [])) (fun t k => XS.ifNo X10.here hx rfl (hb hby at_107) rfl ((if0 _ _).trans (feq (by decide : ¬ ((1 : Int32) = (0 : Int32)))).1) k) ?_
  refine Goes.st (U' := T10.setTop (mkF m 112 #[.val (.long q1), .second, .val (.int p2), .val (.int p3), .val (.int (n.toInt32)), .val (.int (f.toInt32)), .val (.ref b1), .val (.ref nb6)] [(.ref nb6)])) (fun t k => XS.aload X10.here hx rfl (hb hby at_110) rfl rfl k) ?_
  refine Goes.st (U' := T10.setTop (mkF m 113 #[.val (.long q1), .second, .val (.int p2), .val (.int p3), .val (.int (n.toInt32)), .val (.int (f.toInt32)), .val (.ref b1), .val (.ref nb6)] [(.int (3 : Int32)), (.ref nb6)])) (fun t k => XS.iconst X10.here hx rfl (hb hby at_112) k) ?_
  refine Goes.st (U' := T10.setTop (mkF m 115 #[.val (.long q1), .second, .val (.int p2), .val (.int p3), .val (.int (n.toInt32)), .val (.int (f.toInt32)), .val (.ref b1), .val (.ref nb6)] [(.int (n.toInt32)), (.int (3 : Int32)), (.ref nb6)])) (fun t k => XS.iload X10.here hx rfl (hb hby at_113) rfl k) ?_
  refine Goes.st (U' := T10.setTop (mkF m 117 #[.val (.long q1), .second, .val (.int p2), .val (.int p3), .val (.int (n.toInt32)), .val (.int (f.toInt32)), .val (.ref b1), .val (.ref nb6)] [(.int (f.toInt32)), (.int (n.toInt32)), (.int (3 : Int32)), (.ref nb6)])) (fun t k => XS.iload X10.here hx rfl (hb hby at_115) rfl k) ?_
  refine Goes.st (U' := T10.setTop (mkF m 118 #[.val (.long q1), .second, .val (.int p2), .val (.int p3), .val (.int (n.toInt32)), .val (.int (f.toInt32)), .val (.ref b1), .val (.ref nb6)] [(.long q1), (.int (f.toInt32)), (.int (n.toInt32)), (.int (3 : Int32)), (.ref nb6)])) (fun t k => XS.lloadN X10.here hx rfl (hb hby at_117) rfl k) ?_
  obtain ⟨_, _, ⟨T11, L11, k11, n11⟩, -, X11, ⟨Lc11, hQ11, l11, y11, z11⟩, st11⟩ := Jvm.LawKit.callS X10 hx (y := (⟨"com/example/compokey/compokey/keys/ByteOutputInvertFromPinLaw", "ok", "([BIIIJ)Z"⟩ : MethodName)) hown (mvT hZ (hw _ (List.mem_of_getElem? (i := 51) rfl))) (mvT hZ (hw _ (List.mem_of_getElem? (i := 52) rfl))) (mvT hZ (hw _ (List.mem_of_getElem? (i := 53) rfl))) (mvT hZ (hw _ (List.mem_of_getElem? (i := 54) rfl))) (by decide) (backOf (W := 0) (rm10 l Z a0 hw [] nb6 (3 : Int32) (n.toInt32) (f.toInt32) q1 kb6 ((own_inv ((own_be q1 n).length - f) f (own_be q1 n)).map .int) T6.heap n0 (Nat.le_trans (Nat.le_trans (Nat.le_trans (Nat.le_trans (Nat.le_trans Z0 E1.1) K2.1) K3.1) K4.1) K6.1) ((elen ▸ V_nb6)) ((by decide)) ((own_fin q1 n f 3 hn8 hf15 (by omega)))) hZ (hw _ (List.mem_of_getElem? (i := 54) rfl)) (hw _ (List.mem_of_getElem? (i := 53) rfl)) (by decide) (by decide)) (g := (mkF m 118 #[.val (.long q1), .second, .val (.int p2), .val (.int p3), .val (.int (n.toInt32)), .val (.int (f.toInt32)), .val (.ref b1), .val (.ref nb6)] [(.long q1), (.int (f.toInt32)), (.int (n.toInt32)), (.int (3 : Int32)), (.ref nb6)])) rfl (by rw [hml]; rfl) (argsL := [(.ref nb6), (.int (3 : Int32)), (.int (n.toInt32)), (.int (f.toInt32)), (.long q1)]) (rest := []) (lenOf pd_7 rfl) rfl (by show 2 * 0 + _ ≤ _; exact Nat.le_of_eq rfl) (hb hby at_118) (fun _ _ => ⟨rfl, e10, (by decide : 3 + 0 ≤ _), (by decide : 74 + 0 ≤ _)⟩)
  dsimp only [Pt.U, Pt.locs, Pt.cells, Pt.slots] at X11 l11 y11 z11 st11 hQ11
  subst l11 y11 z11
  obtain ⟨rfl, N11q, e11⟩ := hQ11
  have N11 := Fr.app N10 N11q
  refine Goes.st (U' := T11.setTop (mkF m 121 #[.val (.long q1), .second, .val (.int p2), .val (.int p3), .val (.int (n.toInt32)), .val (.int (f.toInt32)), .val (.ref b1), .val (.ref nb6)] [(.int (1 : Int32))])) st11 ?_
  refine Goes.st (U' := T11.setTop (mkF m 124 #[.val (.long q1), .second, .val (.int p2), .val (.int p3), .val (.int (n.toInt32)), .val (.int (f.toInt32)), .val (.ref b1), .val (.ref nb6)] [])) (fun t k => XS.ifNo X11.here hx rfl (hb hby at_121) rfl ((if0 _ _).trans (feq (by decide : ¬ ((1 : Int32) = (0 : Int32)))).1) k) ?_
  refine Goes.st (U' := T11.setTop (mkF m 126 #[.val (.long q1), .second, .val (.int p2), .val (.int p3), .val (.int (n.toInt32)), .val (.int (f.toInt32)), .val (.ref b1), .val (.ref nb6)] [(.ref nb6)])) (fun t k => XS.aload X11.here hx rfl (hb hby at_124) rfl rfl k) ?_
  refine Goes.st (U' := T11.setTop (mkF m 127 #[.val (.long q1), .second, .val (.int p2), .val (.int p3), .val (.int (n.toInt32)), .val (.int (f.toInt32)), .val (.ref b1), .val (.ref nb6)] [(.int (4 : Int32)), (.ref nb6)])) (fun t k => XS.iconst X11.here hx rfl (hb hby at_126) k) ?_
  refine Goes.st (U' := T11.setTop (mkF m 129 #[.val (.long q1), .second, .val (.int p2), .val (.int p3), .val (.int (n.toInt32)), .val (.int (f.toInt32)), .val (.ref b1), .val (.ref nb6)] [(.int (n.toInt32)), (.int (4 : Int32)), (.ref nb6)])) (fun t k => XS.iload X11.here hx rfl (hb hby at_127) rfl k) ?_
  refine Goes.st (U' := T11.setTop (mkF m 131 #[.val (.long q1), .second, .val (.int p2), .val (.int p3), .val (.int (n.toInt32)), .val (.int (f.toInt32)), .val (.ref b1), .val (.ref nb6)] [(.int (f.toInt32)), (.int (n.toInt32)), (.int (4 : Int32)), (.ref nb6)])) (fun t k => XS.iload X11.here hx rfl (hb hby at_129) rfl k) ?_
  refine Goes.st (U' := T11.setTop (mkF m 132 #[.val (.long q1), .second, .val (.int p2), .val (.int p3), .val (.int (n.toInt32)), .val (.int (f.toInt32)), .val (.ref b1), .val (.ref nb6)] [(.long q1), (.int (f.toInt32)), (.int (n.toInt32)), (.int (4 : Int32)), (.ref nb6)])) (fun t k => XS.lloadN X11.here hx rfl (hb hby at_131) rfl k) ?_
  obtain ⟨_, _, ⟨T12, L12, k12, n12⟩, -, X12, ⟨Lc12, hQ12, l12, y12, z12⟩, st12⟩ := Jvm.LawKit.callS X11 hx (y := (⟨"com/example/compokey/compokey/keys/ByteOutputInvertFromPinLaw", "ok", "([BIIIJ)Z"⟩ : MethodName)) hown (mvT hZ (hw _ (List.mem_of_getElem? (i := 51) rfl))) (mvT hZ (hw _ (List.mem_of_getElem? (i := 52) rfl))) (mvT hZ (hw _ (List.mem_of_getElem? (i := 53) rfl))) (mvT hZ (hw _ (List.mem_of_getElem? (i := 54) rfl))) (by decide) (backOf (W := 0) (rm10 l Z a0 hw [] nb6 (4 : Int32) (n.toInt32) (f.toInt32) q1 kb6 ((own_inv ((own_be q1 n).length - f) f (own_be q1 n)).map .int) T6.heap n0 (Nat.le_trans (Nat.le_trans (Nat.le_trans (Nat.le_trans (Nat.le_trans Z0 E1.1) K2.1) K3.1) K4.1) K6.1) ((elen ▸ V_nb6)) ((by decide)) ((own_fin q1 n f 4 hn8 hf15 (by omega)))) hZ (hw _ (List.mem_of_getElem? (i := 54) rfl)) (hw _ (List.mem_of_getElem? (i := 53) rfl)) (by decide) (by decide)) (g := (mkF m 132 #[.val (.long q1), .second, .val (.int p2), .val (.int p3), .val (.int (n.toInt32)), .val (.int (f.toInt32)), .val (.ref b1), .val (.ref nb6)] [(.long q1), (.int (f.toInt32)), (.int (n.toInt32)), (.int (4 : Int32)), (.ref nb6)])) rfl (by rw [hml]; rfl) (argsL := [(.ref nb6), (.int (4 : Int32)), (.int (n.toInt32)), (.int (f.toInt32)), (.long q1)]) (rest := []) (lenOf pd_7 rfl) rfl (by show 2 * 0 + _ ≤ _; exact Nat.le_of_eq rfl) (hb hby at_132) (fun _ _ => ⟨rfl, e11, (by decide : 3 + 0 ≤ _), (by decide : 74 + 0 ≤ _)⟩)
  dsimp only [Pt.U, Pt.locs, Pt.cells, Pt.slots] at X12 l12 y12 z12 st12 hQ12
  subst l12 y12 z12
  obtain ⟨rfl, N12q, e12⟩ := hQ12
  have N12 := Fr.app N11 N12q
  refine Goes.st (U' := T12.setTop (mkF m 135 #[.val (.long q1), .second, .val (.int p2), .val (.int p3), .val (.int (n.toInt32)), .val (.int (f.toInt32)), .val (.ref b1), .val (.ref nb6)] [(.int (1 : Int32))])) st12 ?_
  refine Goes.st (U' := T12.setTop (mkF m 138 #[.val (.long q1), .second, .val (.int p2), .val (.int p3), .val (.int (n.toInt32)), .val (.int (f.toInt32)), .val (.ref b1), .val (.ref nb6)] [])) (fun t k => XS.ifNo X12.here hx rfl (hb hby at_135) rfl ((if0 _ _).trans (feq (by decide : ¬ ((1 : Int32) = (0 : Int32)))).1) k) ?_
  refine Goes.st (U' := T12.setTop (mkF m 140 #[.val (.long q1), .second, .val (.int p2), .val (.int p3), .val (.int (n.toInt32)), .val (.int (f.toInt32)), .val (.ref b1), .val (.ref nb6)] [(.ref nb6)])) (fun t k => XS.aload X12.here hx rfl (hb hby at_138) rfl rfl k) ?_
  refine Goes.st (U' := T12.setTop (mkF m 141 #[.val (.long q1), .second, .val (.int p2), .val (.int p3), .val (.int (n.toInt32)), .val (.int (f.toInt32)), .val (.ref b1), .val (.ref nb6)] [(.int (5 : Int32)), (.ref nb6)])) (fun t k => XS.iconst X12.here hx rfl (hb hby at_140) k) ?_
  refine Goes.st (U' := T12.setTop (mkF m 143 #[.val (.long q1), .second, .val (.int p2), .val (.int p3), .val (.int (n.toInt32)), .val (.int (f.toInt32)), .val (.ref b1), .val (.ref nb6)] [(.int (n.toInt32)), (.int (5 : Int32)), (.ref nb6)])) (fun t k => XS.iload X12.here hx rfl (hb hby at_141) rfl k) ?_
  refine Goes.st (U' := T12.setTop (mkF m 145 #[.val (.long q1), .second, .val (.int p2), .val (.int p3), .val (.int (n.toInt32)), .val (.int (f.toInt32)), .val (.ref b1), .val (.ref nb6)] [(.int (f.toInt32)), (.int (n.toInt32)), (.int (5 : Int32)), (.ref nb6)])) (fun t k => XS.iload X12.here hx rfl (hb hby at_143) rfl k) ?_
  refine Goes.st (U' := T12.setTop (mkF m 146 #[.val (.long q1), .second, .val (.int p2), .val (.int p3), .val (.int (n.toInt32)), .val (.int (f.toInt32)), .val (.ref b1), .val (.ref nb6)] [(.long q1), (.int (f.toInt32)), (.int (n.toInt32)), (.int (5 : Int32)), (.ref nb6)])) (fun t k => XS.lloadN X12.here hx rfl (hb hby at_145) rfl k) ?_
  obtain ⟨_, _, ⟨T13, L13, k13, n13⟩, -, X13, ⟨Lc13, hQ13, l13, y13, z13⟩, st13⟩ := Jvm.LawKit.callS X12 hx (y := (⟨"com/example/compokey/compokey/keys/ByteOutputInvertFromPinLaw", "ok", "([BIIIJ)Z"⟩ : MethodName)) hown (mvT hZ (hw _ (List.mem_of_getElem? (i := 51) rfl))) (mvT hZ (hw _ (List.mem_of_getElem? (i := 52) rfl))) (mvT hZ (hw _ (List.mem_of_getElem? (i := 53) rfl))) (mvT hZ (hw _ (List.mem_of_getElem? (i := 54) rfl))) (by decide) (backOf (W := 0) (rm10 l Z a0 hw [] nb6 (5 : Int32) (n.toInt32) (f.toInt32) q1 kb6 ((own_inv ((own_be q1 n).length - f) f (own_be q1 n)).map .int) T6.heap n0 (Nat.le_trans (Nat.le_trans (Nat.le_trans (Nat.le_trans (Nat.le_trans Z0 E1.1) K2.1) K3.1) K4.1) K6.1) ((elen ▸ V_nb6)) ((by decide)) ((own_fin q1 n f 5 hn8 hf15 (by omega)))) hZ (hw _ (List.mem_of_getElem? (i := 54) rfl)) (hw _ (List.mem_of_getElem? (i := 53) rfl)) (by decide) (by decide)) (g := (mkF m 146 #[.val (.long q1), .second, .val (.int p2), .val (.int p3), .val (.int (n.toInt32)), .val (.int (f.toInt32)), .val (.ref b1), .val (.ref nb6)] [(.long q1), (.int (f.toInt32)), (.int (n.toInt32)), (.int (5 : Int32)), (.ref nb6)])) rfl (by rw [hml]; rfl) (argsL := [(.ref nb6), (.int (5 : Int32)), (.int (n.toInt32)), (.int (f.toInt32)), (.long q1)]) (rest := []) (lenOf pd_7 rfl) rfl (by show 2 * 0 + _ ≤ _; exact Nat.le_of_eq rfl) (hb hby at_146) (fun _ _ => ⟨rfl, e12, (by decide : 3 + 0 ≤ _), (by decide : 74 + 0 ≤ _)⟩)
  dsimp only [Pt.U, Pt.locs, Pt.cells, Pt.slots] at X13 l13 y13 z13 st13 hQ13
  subst l13 y13 z13
  obtain ⟨rfl, N13q, e13⟩ := hQ13
  have N13 := Fr.app N12 N13q
  refine Goes.st (U' := T13.setTop (mkF m 149 #[.val (.long q1), .second, .val (.int p2), .val (.int p3), .val (.int (n.toInt32)), .val (.int (f.toInt32)), .val (.ref b1), .val (.ref nb6)] [(.int (1 : Int32))])) st13 ?_
  refine Goes.st (U' := T13.setTop (mkF m 152 #[.val (.long q1), .second, .val (.int p2), .val (.int p3), .val (.int (n.toInt32)), .val (.int (f.toInt32)), .val (.ref b1), .val (.ref nb6)] [])) (fun t k => XS.ifNo X13.here hx rfl (hb hby at_149) rfl ((if0 _ _).trans (feq (by decide : ¬ ((1 : Int32) = (0 : Int32)))).1) k) ?_
  refine Goes.st (U' := T13.setTop (mkF m 154 #[.val (.long q1), .second, .val (.int p2), .val (.int p3), .val (.int (n.toInt32)), .val (.int (f.toInt32)), .val (.ref b1), .val (.ref nb6)] [(.ref nb6)])) (fun t k => XS.aload X13.here hx rfl (hb hby at_152) rfl rfl k) ?_
  refine Goes.st (U' := T13.setTop (mkF m 156 #[.val (.long q1), .second, .val (.int p2), .val (.int p3), .val (.int (n.toInt32)), .val (.int (f.toInt32)), .val (.ref b1), .val (.ref nb6)] [(.int (6 : Int32)), (.ref nb6)])) (fun t k => XS.bipush X13.here hx rfl (hb hby at_154) k) ?_
  refine Goes.st (U' := T13.setTop (mkF m 158 #[.val (.long q1), .second, .val (.int p2), .val (.int p3), .val (.int (n.toInt32)), .val (.int (f.toInt32)), .val (.ref b1), .val (.ref nb6)] [(.int (n.toInt32)), (.int (6 : Int32)), (.ref nb6)])) (fun t k => XS.iload X13.here hx rfl (hb hby at_156) rfl k) ?_
  refine Goes.st (U' := T13.setTop (mkF m 160 #[.val (.long q1), .second, .val (.int p2), .val (.int p3), .val (.int (n.toInt32)), .val (.int (f.toInt32)), .val (.ref b1), .val (.ref nb6)] [(.int (f.toInt32)), (.int (n.toInt32)), (.int (6 : Int32)), (.ref nb6)])) (fun t k => XS.iload X13.here hx rfl (hb hby at_158) rfl k) ?_
  refine Goes.st (U' := T13.setTop (mkF m 161 #[.val (.long q1), .second, .val (.int p2), .val (.int p3), .val (.int (n.toInt32)), .val (.int (f.toInt32)), .val (.ref b1), .val (.ref nb6)] [(.long q1), (.int (f.toInt32)), (.int (n.toInt32)), (.int (6 : Int32)), (.ref nb6)])) (fun t k => XS.lloadN X13.here hx rfl (hb hby at_160) rfl k) ?_
  obtain ⟨_, _, ⟨T14, L14, k14, n14⟩, -, X14, ⟨Lc14, hQ14, l14, y14, z14⟩, st14⟩ := Jvm.LawKit.callS X13 hx (y := (⟨"com/example/compokey/compokey/keys/ByteOutputInvertFromPinLaw", "ok", "([BIIIJ)Z"⟩ : MethodName)) hown (mvT hZ (hw _ (List.mem_of_getElem? (i := 51) rfl))) (mvT hZ (hw _ (List.mem_of_getElem? (i := 52) rfl))) (mvT hZ (hw _ (List.mem_of_getElem? (i := 53) rfl))) (mvT hZ (hw _ (List.mem_of_getElem? (i := 54) rfl))) (by decide) (backOf (W := 0) (rm10 l Z a0 hw [] nb6 (6 : Int32) (n.toInt32) (f.toInt32) q1 kb6 ((own_inv ((own_be q1 n).length - f) f (own_be q1 n)).map .int) T6.heap n0 (Nat.le_trans (Nat.le_trans (Nat.le_trans (Nat.le_trans (Nat.le_trans Z0 E1.1) K2.1) K3.1) K4.1) K6.1) ((elen ▸ V_nb6)) ((by decide)) ((own_fin q1 n f 6 hn8 hf15 (by omega)))) hZ (hw _ (List.mem_of_getElem? (i := 54) rfl)) (hw _ (List.mem_of_getElem? (i := 53) rfl)) (by decide) (by decide)) (g := (mkF m 161 #[.val (.long q1), .second, .val (.int p2), .val (.int p3), .val (.int (n.toInt32)), .val (.int (f.toInt32)), .val (.ref b1), .val (.ref nb6)] [(.long q1), (.int (f.toInt32)), (.int (n.toInt32)), (.int (6 : Int32)), (.ref nb6)])) rfl (by rw [hml]; rfl) (argsL := [(.ref nb6), (.int (6 : Int32)), (.int (n.toInt32)), (.int (f.toInt32)), (.long q1)]) (rest := []) (lenOf pd_7 rfl) rfl (by show 2 * 0 + _ ≤ _; exact Nat.le_of_eq rfl) (hb hby at_161) (fun _ _ => ⟨rfl, e13, (by decide : 3 + 0 ≤ _), (by decide : 74 + 0 ≤ _)⟩)
  dsimp only [Pt.U, Pt.locs, Pt.cells, Pt.slots] at X14 l14 y14 z14 st14 hQ14
  subst l14 y14 z14
  obtain ⟨rfl, N14q, e14⟩ := hQ14
  have N14 := Fr.app N13 N14q
  refine Goes.st (U' := T14.setTop (mkF m 164 #[.val (.long q1), .second, .val (.int p2), .val (.int p3), .val (.int (n.toInt32)), .val (.int (f.toInt32)), .val (.ref b1), .val (.ref nb6)] [(.int (1 : Int32))])) st14 ?_
  refine Goes.st (U' := T14.setTop (mkF m 167 #[.val (.long q1), .second, .val (.int p2), .val (.int p3), .val (.int (n.toInt32)), .val (.int (f.toInt32)), .val (.ref b1), .val (.ref nb6)] [])) (fun t k => XS.ifNo X14.here hx rfl (hb hby at_164) rfl ((if0 _ _).trans (feq (by decide : ¬ ((1 : Int32) = (0 : Int32)))).1) k) ?_
  refine Goes.st (U' := T14.setTop (mkF m 169 #[.val (.long q1), .second, .val (.int p2), .val (.int p3), .val (.int (n.toInt32)), .val (.int (f.toInt32)), .val (.ref b1), .val (.ref nb6)] [(.ref nb6)])) (fun t k => XS.aload X14.here hx rfl (hb hby at_167) rfl rfl k) ?_
  refine Goes.st (U' := T14.setTop (mkF m 171 #[.val (.long q1), .second, .val (.int p2), .val (.int p3), .val (.int (n.toInt32)), .val (.int (f.toInt32)), .val (.ref b1), .val (.ref nb6)] [(.int (7 : Int32)), (.ref nb6)])) (fun t k => XS.bipush X14.here hx rfl (hb hby at_169) k) ?_
  refine Goes.st (U' := T14.setTop (mkF m 173 #[.val (.long q1), .second, .val (.int p2), .val (.int p3), .val (.int (n.toInt32)), .val (.int (f.toInt32)), .val (.ref b1), .val (.ref nb6)] [(.int (n.toInt32)), (.int (7 : Int32)), (.ref nb6)])) (fun t k => XS.iload X14.here hx rfl (hb hby at_171) rfl k) ?_
  refine Goes.st (U' := T14.setTop (mkF m 175 #[.val (.long q1), .second, .val (.int p2), .val (.int p3), .val (.int (n.toInt32)), .val (.int (f.toInt32)), .val (.ref b1), .val (.ref nb6)] [(.int (f.toInt32)), (.int (n.toInt32)), (.int (7 : Int32)), (.ref nb6)])) (fun t k => XS.iload X14.here hx rfl (hb hby at_173) rfl k) ?_
  refine Goes.st (U' := T14.setTop (mkF m 176 #[.val (.long q1), .second, .val (.int p2), .val (.int p3), .val (.int (n.toInt32)), .val (.int (f.toInt32)), .val (.ref b1), .val (.ref nb6)] [(.long q1), (.int (f.toInt32)), (.int (n.toInt32)), (.int (7 : Int32)), (.ref nb6)])) (fun t k => XS.lloadN X14.here hx rfl (hb hby at_175) rfl k) ?_
  obtain ⟨_, _, ⟨T15, L15, k15, n15⟩, -, X15, ⟨Lc15, hQ15, l15, y15, z15⟩, st15⟩ := Jvm.LawKit.callS X14 hx (y := (⟨"com/example/compokey/compokey/keys/ByteOutputInvertFromPinLaw", "ok", "([BIIIJ)Z"⟩ : MethodName)) hown (mvT hZ (hw _ (List.mem_of_getElem? (i := 51) rfl))) (mvT hZ (hw _ (List.mem_of_getElem? (i := 52) rfl))) (mvT hZ (hw _ (List.mem_of_getElem? (i := 53) rfl))) (mvT hZ (hw _ (List.mem_of_getElem? (i := 54) rfl))) (by decide) (backOf (W := 0) (rm10 l Z a0 hw [] nb6 (7 : Int32) (n.toInt32) (f.toInt32) q1 kb6 ((own_inv ((own_be q1 n).length - f) f (own_be q1 n)).map .int) T6.heap n0 (Nat.le_trans (Nat.le_trans (Nat.le_trans (Nat.le_trans (Nat.le_trans Z0 E1.1) K2.1) K3.1) K4.1) K6.1) ((elen ▸ V_nb6)) ((by decide)) ((own_fin q1 n f 7 hn8 hf15 (by omega)))) hZ (hw _ (List.mem_of_getElem? (i := 54) rfl)) (hw _ (List.mem_of_getElem? (i := 53) rfl)) (by decide) (by decide)) (g := (mkF m 176 #[.val (.long q1), .second, .val (.int p2), .val (.int p3), .val (.int (n.toInt32)), .val (.int (f.toInt32)), .val (.ref b1), .val (.ref nb6)] [(.long q1), (.int (f.toInt32)), (.int (n.toInt32)), (.int (7 : Int32)), (.ref nb6)])) rfl (by rw [hml]; rfl) (argsL := [(.ref nb6), (.int (7 : Int32)), (.int (n.toInt32)), (.int (f.toInt32)), (.long q1)]) (rest := []) (lenOf pd_7 rfl) rfl (by show 2 * 0 + _ ≤ _; exact Nat.le_of_eq rfl) (hb hby at_176) (fun _ _ => ⟨rfl, e14, (by decide : 3 + 0 ≤ _), (by decide : 74 + 0 ≤ _)⟩)
  dsimp only [Pt.U, Pt.locs, Pt.cells, Pt.slots] at X15 l15 y15 z15 st15 hQ15
  subst l15 y15 z15
  obtain ⟨rfl, N15q, e15⟩ := hQ15
  have N15 := Fr.app N14 N15q
  refine Goes.st (U' := T15.setTop (mkF m 179 #[.val (.long q1), .second, .val (.int p2), .val (.int p3), .val (.int (n.toInt32)), .val (.int (f.toInt32)), .val (.ref b1), .val (.ref nb6)] [(.int (1 : Int32))])) st15 ?_
  refine Goes.st (U' := T15.setTop (mkF m 182 #[.val (.long q1), .second, .val (.int p2), .val (.int p3), .val (.int (n.toInt32)), .val (.int (f.toInt32)), .val (.ref b1), .val (.ref nb6)] [])) (fun t k => XS.ifNo X15.here hx rfl (hb hby at_179) rfl ((if0 _ _).trans (feq (by decide : ¬ ((1 : Int32) = (0 : Int32)))).1) k) ?_
  refine Goes.st (U' := T15.setTop (mkF m 183 #[.val (.long q1), .second, .val (.int p2), .val (.int p3), .val (.int (n.toInt32)), .val (.int (f.toInt32)), .val (.ref b1), .val (.ref nb6)] [(.int (1 : Int32))])) (fun t k => XS.iconst X15.here hx rfl (hb hby at_182) k) ?_
  refine Goes.st (U' := T15.setTop (mkF m 187 #[.val (.long q1), .second, .val (.int p2), .val (.int p3), .val (.int (n.toInt32)), .val (.int (f.toInt32)), .val (.ref b1), .val (.ref nb6)] [(.int (1 : Int32))])) (fun t k => XS.goto X15.here hx rfl (pc0 := 183) (pc' := 187) rfl (hb hby at_183) (by decide) (by decide) k) ?_
  refine Goes.retZ X15 hx (BodyLoose.notSynchronized Bd) Bd.returns (hb hby at_187) rfl (by decide) (by decide) ?_
  show Q0 Z q1 p2 p3 h0 n0 _ T15.heap _
  rw [e15]
  exact ⟨rfl, N15⟩
set_option maxRecDepth 65536 in
set_option maxHeartbeats 40000000 in
theorem comes_1 {Post : Tables → Env → Array Value → State → Outcome → State → Prop} (hpost : ∀ tb e args s v u, (limb_1_1.after args s (.returned v) u = true ∧ limb_1_2.after args s (.returned v) u = true ∧ True) → FrameEnd s (.returned v) u (Jvm.fieldLocs frame_1_writes args s ++ Jvm.arrayLocs frame_1_arrays args s ++ Jvm.staticLocs frame_1_statics s) 16 256 → Post tb e args s (.returned v) u) :
    ArmFor flags0 classFile x code maxLocals ret World_1 tables_1 room_1 Calls_1 rest_1 Pre_1 Post := by
  intro l hfl _ _ p e ha hc hk s m args below hf hA hF happ hP
  obtain ⟨hcalls, hrest, hpre⟩ := hP
  obtain ⟨-, -, -, hnamed, -, -, -, hat⟩ := (Spec.applies_iff hf).mp happ
  obtain ⟨hg, hn⟩ := and_e (Cond.before_iff.mp (show (Jvm.Cond.and given_1 narrow_1).before args s = true from hpre))
  obtain ⟨gg1, gg2⟩ := and_e hg
  obtain ⟨gg3, gg4⟩ := and_e gg2
  obtain ⟨gg5, gg6⟩ := and_e gg4
  obtain ⟨w0, w1, w2, rfl⟩ : ∃ w0 w1 w2 : Value, args = #[w0, w1, w2] := by
    have hs : args.size = 3 := by simpa [Cond.value, given_1] using gg1
    obtain ⟨L⟩ := args
    match L, hs with
    | [w0, w1, w2], _ => exact ⟨w0, w1, w2, rfl⟩
  have hw := fun d (hd : d ∈ tables_1) => atoms_spec (ws := Jvm.Cond.code x code maxLocals ret :: tables_1) hat d (List.mem_cons_of_mem _ hd)
  obtain ⟨i0, ei0⟩ := isL_v gg3
  obtain rfl : w0 = (.long i0) := Option.some.inj ei0
  obtain ⟨i1, ei1⟩ := is_v gg5
  obtain rfl : w1 = (.int i1) := Option.some.inj ei1
  obtain ⟨i2, ei2⟩ := is_v gg6
  obtain rfl : w2 = (.int i2) := Option.some.inj ei2
  obtain ⟨n, o, h1, h2, h3, v, L, rfl, hQ, hq⟩ := rm0 l s _ hw tables_1 i0 i1 i2 s.heap s.heap.size (Nat.le_refl _) p e ha hc hk s m _ below hf ((Spec.applies_iff_loose hf).mp happ).1 ⟨rfl, State.Warmed39.refl s, rfl⟩ trivial
  obtain ⟨rfl, N⟩ := hQ
  exact ⟨n, _, h1, h2, h3, hpost _ _ _ _ _ _ ⟨Cond.after_iff.mpr rfl, Cond.after_iff.mpr (eq_i res_at (Term.int_eval (1)) rfl), trivial⟩ ⟨hq.1, hq.2.1, (hq.2.2.sift fun y hy => Or.inr (N y hy)).mono (by decide) (by decide)⟩⟩
theorem main_1_1 : Claimed_1_1 := comes_1 fun _ _ _ _ _ _ h hF => ⟨h.1, hF⟩
theorem main_1_2 : Claimed_1_2 := comes_1 fun _ _ _ _ _ _ h hF => ⟨h.2.1, hF⟩
end Jvm.Pilot.@@N@@
namespace Jvm.Pilot.@@N@@
open Jvm Jvm.ClassFile Sem Op Lib Jvm.Free Jvm.Stand Jvm.Pilot.@@N@@.Jvm.D
/-! MADE BY PROGRAM (witnessworld.py) out of the Statement's table words and the real class files: 12 classes; the members and pool entries that the words name. The judged class is class 1, her method 2. -/
namespace start1
open Jvm.ClassFile
def u (s : String) : CpInfo := .utf8 (stringToUtf16 s)
/-- a pool by its gaps: so many unusable entries, then the entry; so many at the end -/
def gap : Nat → List CpInfo → List CpInfo
  | 0, r => r
  | n + 1, r => .unusable :: gap n r
def poolList (es : List (Nat × CpInfo)) (last : Nat) : List CpInfo := es.foldr (fun e r => gap e.1 (e.2 :: r)) (gap last [])
def pool (es : List (Nat × CpInfo)) (last : Nat) : Array CpInfo := ⟨poolList es last⟩
def fileOf (pool : Array CpInfo) (this : Nat) (attrs : Array Attribute := #[]) (ms : Array MethodInfo := #[]) (fl : Nat := 33) (sup : Nat := 0) (ifs : Array Nat := #[]) (fds : Array FieldInfo := #[]) : ClassFile where
  minorVersion := 0
  majorVersion := 65
  constantPool := pool
  accessFlags := fl
  thisClass := this
  superClass := sup
  interfaces := ifs
  fields := fds
  methods := ms
  attributes := attrs
def plain (name : String) (sup : Option ClassId) : Class where
  name := name
  kind := .ordinary
  loader := none
  accessFlags := 33
  super := sup
  interfaces := #[]
  cf := none
  fields := #[]
  methods := #[]
  instanceTypes := #[]
  staticTypes := #[]
  resolved := #[]
  callSites := []
  init := .initialized
  statics := none
  mirror := none

def pool0 : Array CpInfo := pool [(5, u "<init>"), (0, u "()V"), (1, .class_ 10), (1, u "java/lang/Object")] 113

def k0c0 : Code := { maxStack := 0, maxLocals := 1, code := object_method_1_code, exceptionTable := #[], attributes := #[] }
def k0m0 : Method := { name := "<init>", desc := "()V", sig := { parameters := [], returnType := none }, accessFlags := 1, code := some k0c0 }
/-- java/lang/Object -/
def k0 : Class := { plain "java/lang/Object" none with
  accessFlags := 33
  interfaces := #[]
  cf := some (fileOf pool0 8 #[] #[{ accessFlags := 1, nameIndex := 5, descriptorIndex := 6, attributes := #[] }] 33 0 #[] #[])
  fields := #[]
  methods := #[k0m0]
  instanceTypes := #[]
  staticTypes := #[]
  resolved := Array.replicate 124 none
  statics := none }

def pool1 : Array CpInfo := pool [(2, .class_ 4), (0, .nameAndType 5 6), (0, u "java/lang/Object"), (0, u "<init>"), (0, u "()V"), (0, .integer 2147483647), (0, .class_ 9), (0, u "com/example/compokey/compokey/keys/ByteOutput"), (0, .methodref 8 3), (0, .methodref 8 12), (0, .nameAndType 13 14), (0, u "bigEndian"), (0, u "(JI)V"), (0, .methodref 8 16), (0, .nameAndType 17 18), (0, u "invertFrom"), (0, u "(I)V"), (0, .methodref 8 20), (0, .nameAndType 21 22), (0, u "size"), (0, u "()I"), (0, .methodref 8 24), (0, .nameAndType 25 26), (0, u "toByteArray"), (0, u "()[B"), (0, .methodref 28 29), (0, .class_ 30), (0, .nameAndType 31 32), (0, u "com/example/compokey/compokey/keys/ByteOutputInvertFromPinLaw"), (0, u "ok"), (0, u "([BIIIJ)Z"), (3, u "law"), (0, u "(JII)Z")] 4

def k1m0 : Method := { name := "<init>", desc := "()V", sig := { parameters := [], returnType := none }, accessFlags := 1, code := none }
def k1c1 : Code := { maxStack := 4, maxLocals := 8, code := method_2_code, exceptionTable := #[], attributes := #[] }
def k1m1 : Method := { name := "ok", desc := "([BIIIJ)Z", sig := { parameters := [(.array .byte), .int, .int, .int, .long], returnType := some .boolean }, accessFlags := 10, code := some k1c1 }
def k1c2 : Code := { maxStack := 6, maxLocals := 8, code := code, exceptionTable := #[], attributes := #[] }
def k1m2 : Method := { name := "law", desc := "(JII)Z", sig := { parameters := [.long, .int, .int], returnType := some .boolean }, accessFlags := 9, code := some k1c2 }
/-- com/example/compokey/compokey/keys/ByteOutputInvertFromPinLaw -/
def k1 : Class := { plain "com/example/compokey/compokey/keys/ByteOutputInvertFromPinLaw" (some 0) with
  accessFlags := 49
  interfaces := #[]
  cf := some (fileOf pool1 28 #[] #[{ accessFlags := 1, nameIndex := 5, descriptorIndex := 6, attributes := #[] }, { accessFlags := 10, nameIndex := 31, descriptorIndex := 32, attributes := #[] }, { accessFlags := 9, nameIndex := 36, descriptorIndex := 37, attributes := #[] }] 49 2 #[] #[])
  fields := #[]
  methods := #[k1m0, k1m1, k1m2]
  instanceTypes := #[]
  staticTypes := #[]
  resolved := Array.replicate 42 none
  statics := none }

def pool2 : Array CpInfo := pool [(1, .methodref 2 3), (0, .class_ 4), (0, .nameAndType 5 6), (0, u "java/lang/Object"), (0, u "<init>"), (0, u "()V"), (0, .class_ 8), (0, u "com/example/compokey/compokey/keys/ByteOutput"), (0, .fieldref 7 10), (0, .nameAndType 11 12), (0, u "bytes"), (0, u "[B"), (0, .fieldref 7 14), (0, .nameAndType 15 16), (0, u "size"), (0, u "I"), (0, .methodref 7 18), (0, .nameAndType 19 20), (0, u "ensureCapacity"), (0, u "(I)V"), (8, .methodref 30 31), (0, .class_ 32), (0, .nameAndType 33 34), (0, u "java/util/Arrays"), (0, u "copyOf"), (0, u "([BI)[B"), (6, u "INITIAL_CAPACITY"), (6, u "bigEndian"), (0, u "(JI)V"), (1, u "()I"), (0, u "invertFrom"), (0, u "toByteArray"), (0, u "()[B")] 2

def k2c0 : Code := { maxStack := 2, maxLocals := 1, code := prog_9_method_1_code, exceptionTable := #[], attributes := #[] }
def k2m0 : Method := { name := "<init>", desc := "()V", sig := { parameters := [], returnType := none }, accessFlags := 0, code := some k2c0 }
def k2c1 : Code := { maxStack := 5, maxLocals := 5, code := prog_9_method_4_code, exceptionTable := #[], attributes := #[] }
def k2m1 : Method := { name := "bigEndian", desc := "(JI)V", sig := { parameters := [.long, .int], returnType := none }, accessFlags := 0, code := some k2c1 }
def k2c2 : Code := { maxStack := 1, maxLocals := 1, code := prog_9_method_5_code, exceptionTable := #[], attributes := #[] }
def k2m2 : Method := { name := "size", desc := "()I", sig := { parameters := [], returnType := some .int }, accessFlags := 0, code := some k2c2 }
def k2c3 : Code := { maxStack := 4, maxLocals := 3, code := prog_9_method_6_code, exceptionTable := #[], attributes := #[] }
def k2m3 : Method := { name := "invertFrom", desc := "(I)V", sig := { parameters := [.int], returnType := none }, accessFlags := 0, code := some k2c3 }
def k2c4 : Code := { maxStack := 2, maxLocals := 1, code := prog_9_method_7_code, exceptionTable := #[], attributes := #[] }
def k2m4 : Method := { name := "toByteArray", desc := "()[B", sig := { parameters := [], returnType := some (.array .byte) }, accessFlags := 0, code := some k2c4 }
def k2c5 : Code := { maxStack := 5, maxLocals := 2, code := prog_9_method_8_code, exceptionTable := #[], attributes := #[] }
def k2m5 : Method := { name := "ensureCapacity", desc := "(I)V", sig := { parameters := [.int], returnType := none }, accessFlags := 2, code := some k2c5 }
/-- com/example/compokey/compokey/keys/ByteOutput -/
def k2 : Class := { plain "com/example/compokey/compokey/keys/ByteOutput" (some 0) with
  accessFlags := 32
  interfaces := #[]
  cf := some (fileOf pool2 7 #[] #[{ accessFlags := 0, nameIndex := 5, descriptorIndex := 6, attributes := #[] }, { accessFlags := 0, nameIndex := 48, descriptorIndex := 49, attributes := #[] }, { accessFlags := 0, nameIndex := 15, descriptorIndex := 51, attributes := #[] }, { accessFlags := 0, nameIndex := 52, descriptorIndex := 20, attributes := #[] }, { accessFlags := 0, nameIndex := 53, descriptorIndex := 54, attributes := #[] }, { accessFlags := 2, nameIndex := 19, descriptorIndex := 20, attributes := #[] }] 32 2 #[] #[{ accessFlags := 26, nameIndex := 41, descriptorIndex := 16, attributes := #[] }, { accessFlags := 2, nameIndex := 11, descriptorIndex := 12, attributes := #[] }, { accessFlags := 2, nameIndex := 15, descriptorIndex := 16, attributes := #[] }])
  fields := #[{ name := "INITIAL_CAPACITY", type := .int, accessFlags := 26, slot := 0, constantValue := 0 }, { name := "bytes", type := (.array .byte), accessFlags := 2, slot := 0, constantValue := 0 }, { name := "size", type := .int, accessFlags := 2, slot := 1, constantValue := 0 }]
  methods := #[k2m0, k2m1, k2m2, k2m3, k2m4, k2m5]
  instanceTypes := #[(.array .byte), .int]
  staticTypes := #[.int]
  resolved := Array.replicate 57 none
  statics := none }

def pool3 : Array CpInfo := pool [(2, .class_ 4), (1, u "java/lang/Object"), (0, u "<init>"), (0, u "()V"), (7, .class_ 16), (1, u "java/util/Arrays"), (57, .class_ 76), (1, u "java/util/Arrays$NaturalOrder"), (36, .class_ 115), (1, u "java/util/Arrays$LegacyMergeSort"), (1, u "Z"), (32, .methodref 151 152), (0, .class_ 153), (0, .nameAndType 154 155), (0, u "java/lang/System"), (0, u "arraycopy"), (0, u "(Ljava/lang/Object;ILjava/lang/Object;II)V"), (146, u "copyOf"), (1, .methodref 305 306), (0, .class_ 307), (0, .nameAndType 308 309), (0, u "java/lang/Math"), (0, u "min"), (0, u "(II)I"), (65, .class_ 376), (0, u "java/util/Arrays$ArrayList"), (68, u "$assertionsDisabled"), (269, u "MIN_ARRAY_SORT_GRAN"), (0, u "I"), (2, u "INSERTIONSORT_THRESHOLD"), (149, u "([BI)[B"), (105, .class_ 976), (0, u "java/util/Arrays$ArrayItr")] 52

def k3m0 : Method := { name := "<init>", desc := "()V", sig := { parameters := [], returnType := none }, accessFlags := 2, code := none }
def k3c1 : Code := { maxStack := 6, maxLocals := 3, code := jdk_65_method_121_code, exceptionTable := #[], attributes := #[] }
def k3m1 : Method := { name := "copyOf", desc := "([BI)[B", sig := { parameters := [(.array .byte), .int], returnType := some (.array .byte) }, accessFlags := 9, code := some k3c1 }
/-- java/util/Arrays -/
def k3 : Class := { plain "java/util/Arrays" (some 0) with
  accessFlags := 49
  interfaces := #[]
  cf := some (fileOf pool3 14 #[.nestMembers #[975, 375, 113, 74]] #[{ accessFlags := 2, nameIndex := 5, descriptorIndex := 6, attributes := #[] }, { accessFlags := 9, nameIndex := 302, descriptorIndex := 869, attributes := #[] }] 49 2 #[] #[{ accessFlags := 26, nameIndex := 715, descriptorIndex := 716, attributes := #[] }, { accessFlags := 26, nameIndex := 719, descriptorIndex := 716, attributes := #[] }, { accessFlags := 4120, nameIndex := 445, descriptorIndex := 117, attributes := #[] }])
  fields := #[{ name := "MIN_ARRAY_SORT_GRAN", type := .int, accessFlags := 26, slot := 0, constantValue := 0 }, { name := "INSERTIONSORT_THRESHOLD", type := .int, accessFlags := 26, slot := 1, constantValue := 0 }, { name := "$assertionsDisabled", type := .boolean, accessFlags := 4120, slot := 2, constantValue := 0 }]
  methods := #[k3m0, k3m1]
  instanceTypes := #[]
  staticTypes := #[.int, .int, .boolean]
  resolved := Array.replicate 1029 none
  statics := none }

def pool4 : Array CpInfo := pool [(1, .class_ 2), (0, u "java/lang/Math"), (1, .class_ 6), (1, u "java/lang/Object"), (0, u "<init>"), (0, u "()V"), (89, .class_ 100), (1, u "java/lang/Math$RandomNumberGeneratorHolder"), (71, u "negativeZeroFloatBits"), (0, u "J"), (2, u "negativeZeroDoubleBits"), (24, u "min"), (43, u "$assertionsDisabled"), (0, u "Z"), (88, u "(II)I"), (2, u "twoToTheDoubleScaleDown"), (0, u "D"), (4, u "twoToTheDoubleScaleUp"), (9, u "E"), (3, u "PI"), (2, u "TAU"), (2, u "DEGREES_TO_RADIANS"), (0, u "RADIANS_TO_DEGREES")] 94

def k4m0 : Method := { name := "<init>", desc := "()V", sig := { parameters := [], returnType := none }, accessFlags := 2, code := none }
def k4c1 : Code := { maxStack := 2, maxLocals := 2, code := jdk_29_method_69_code, exceptionTable := #[], attributes := #[] }
def k4m1 : Method := { name := "min", desc := "(II)I", sig := { parameters := [.int, .int], returnType := some .int }, accessFlags := 9, code := some k4c1 }
/-- java/lang/Math -/
def k4 : Class := { plain "java/lang/Math" (some 0) with
  accessFlags := 49
  interfaces := #[]
  cf := some (fileOf pool4 1 #[.nestMembers #[98]] #[{ accessFlags := 2, nameIndex := 7, descriptorIndex := 8, attributes := #[] }, { accessFlags := 9, nameIndex := 201, descriptorIndex := 335, attributes := #[] }] 49 4 #[] #[{ accessFlags := 25, nameIndex := 354, descriptorIndex := 339, attributes := #[] }, { accessFlags := 25, nameIndex := 358, descriptorIndex := 339, attributes := #[] }, { accessFlags := 25, nameIndex := 361, descriptorIndex := 339, attributes := #[] }, { accessFlags := 26, nameIndex := 364, descriptorIndex := 339, attributes := #[] }, { accessFlags := 26, nameIndex := 365, descriptorIndex := 339, attributes := #[] }, { accessFlags := 26, nameIndex := 172, descriptorIndex := 173, attributes := #[] }, { accessFlags := 26, nameIndex := 176, descriptorIndex := 173, attributes := #[] }, { accessFlags := 8, nameIndex := 344, descriptorIndex := 339, attributes := #[] }, { accessFlags := 8, nameIndex := 338, descriptorIndex := 339, attributes := #[] }, { accessFlags := 4120, nameIndex := 245, descriptorIndex := 246, attributes := #[] }])
  fields := #[{ name := "E", type := .double, accessFlags := 25, slot := 0, constantValue := 0 }, { name := "PI", type := .double, accessFlags := 25, slot := 1, constantValue := 0 }, { name := "TAU", type := .double, accessFlags := 25, slot := 2, constantValue := 0 }, { name := "DEGREES_TO_RADIANS", type := .double, accessFlags := 26, slot := 3, constantValue := 0 }, { name := "RADIANS_TO_DEGREES", type := .double, accessFlags := 26, slot := 4, constantValue := 0 }, { name := "negativeZeroFloatBits", type := .long, accessFlags := 26, slot := 5, constantValue := 0 }, { name := "negativeZeroDoubleBits", type := .long, accessFlags := 26, slot := 6, constantValue := 0 }, { name := "twoToTheDoubleScaleUp", type := .double, accessFlags := 8, slot := 7, constantValue := 0 }, { name := "twoToTheDoubleScaleDown", type := .double, accessFlags := 8, slot := 8, constantValue := 0 }, { name := "$assertionsDisabled", type := .boolean, accessFlags := 4120, slot := 9, constantValue := 0 }]
  methods := #[k4m0, k4m1]
  instanceTypes := #[]
  staticTypes := #[.double, .double, .double, .double, .double, .long, .long, .double, .double, .boolean]
  resolved := Array.replicate 460 none
  statics := none }

def pool5 : Array CpInfo := pool [(2, .class_ 4), (1, u "java/lang/Object"), (0, u "<init>"), (0, u "()V"), (1, .class_ 10), (1, u "java/lang/System"), (0, u "allowSecurityManager"), (0, u "I"), (16, u "cons"), (0, u "Ljava/io/Console;"), (77, .class_ 110), (1, u "java/lang/System$CallersHolder"), (43, u "initialErrStream"), (0, u "Ljava/io/PrintStream;"), (19, u "security"), (0, u "Ljava/lang/SecurityManager;"), (31, .class_ 209), (0, u "java/lang/System$1"), (7, u "props"), (0, u "Ljava/util/Properties;"), (2, u "lineSeparator"), (0, u "Ljava/lang/String;"), (96, .class_ 321), (1, u "java/lang/System$LoggerFinder"), (5, .class_ 328), (0, u "java/lang/System$Logger"), (67, u "err"), (2, u "out"), (91, u "notSupportedJnuEncoding"), (15, u "in"), (17, u "initialIn"), (0, u "Ljava/io/InputStream;"), (35, u "bootLayer"), (0, u "Ljava/lang/ModuleLayer;"), (99, .class_ 664), (0, u "java/lang/System$2"), (9, u "NEVER"), (2, u "MAYBE"), (49, u "arraycopy"), (0, u "(Ljava/lang/Object;ILjava/lang/Object;II)V"), (72, .class_ 802), (0, u "java/lang/System$Logger$Level")] 31

def k5m0 : Method := { name := "<init>", desc := "()V", sig := { parameters := [], returnType := none }, accessFlags := 2, code := none }
def k5m1 : Method := { name := "arraycopy", desc := "(Ljava/lang/Object;ILjava/lang/Object;II)V", sig := { parameters := [(.object "java/lang/Object"), .int, (.object "java/lang/Object"), .int, .int], returnType := none }, accessFlags := 265, code := none }
/-- java/lang/System -/
def k5 : Class := { plain "java/lang/System" (some 0) with
  accessFlags := 49
  interfaces := #[]
  cf := some (fileOf pool5 8 #[.nestMembers #[319, 327, 801, 108, 663, 208]] #[{ accessFlags := 2, nameIndex := 5, descriptorIndex := 6, attributes := #[] }, { accessFlags := 265, nameIndex := 727, descriptorIndex := 728, attributes := #[] }] 49 2 #[] #[{ accessFlags := 25, nameIndex := 507, descriptorIndex := 526, attributes := #[] }, { accessFlags := 25, nameIndex := 399, descriptorIndex := 155, attributes := #[] }, { accessFlags := 25, nameIndex := 396, descriptorIndex := 155, attributes := #[] }, { accessFlags := 10, nameIndex := 525, descriptorIndex := 526, attributes := #[] }, { accessFlags := 26, nameIndex := 674, descriptorIndex := 12, attributes := #[] }, { accessFlags := 26, nameIndex := 677, descriptorIndex := 12, attributes := #[] }, { accessFlags := 10, nameIndex := 11, descriptorIndex := 12, attributes := #[] }, { accessFlags := 74, nameIndex := 175, descriptorIndex := 176, attributes := #[] }, { accessFlags := 10, nameIndex := 491, descriptorIndex := 222, attributes := #[] }, { accessFlags := 74, nameIndex := 29, descriptorIndex := 30, attributes := #[] }, { accessFlags := 74, nameIndex := 154, descriptorIndex := 155, attributes := #[] }, { accessFlags := 10, nameIndex := 217, descriptorIndex := 218, attributes := #[] }, { accessFlags := 10, nameIndex := 221, descriptorIndex := 222, attributes := #[] }, { accessFlags := 8, nameIndex := 562, descriptorIndex := 563, attributes := #[] }])
  fields := #[{ name := "in", type := (.object "java/io/InputStream"), accessFlags := 25, slot := 0, constantValue := 0 }, { name := "out", type := (.object "java/io/PrintStream"), accessFlags := 25, slot := 1, constantValue := 0 }, { name := "err", type := (.object "java/io/PrintStream"), accessFlags := 25, slot := 2, constantValue := 0 }, { name := "initialIn", type := (.object "java/io/InputStream"), accessFlags := 10, slot := 3, constantValue := 0 }, { name := "NEVER", type := .int, accessFlags := 26, slot := 4, constantValue := 0 }, { name := "MAYBE", type := .int, accessFlags := 26, slot := 5, constantValue := 0 }, { name := "allowSecurityManager", type := .int, accessFlags := 10, slot := 6, constantValue := 0 }, { name := "security", type := (.object "java/lang/SecurityManager"), accessFlags := 74, slot := 7, constantValue := 0 }, { name := "notSupportedJnuEncoding", type := (.object "java/lang/String"), accessFlags := 10, slot := 8, constantValue := 0 }, { name := "cons", type := (.object "java/io/Console"), accessFlags := 74, slot := 9, constantValue := 0 }, { name := "initialErrStream", type := (.object "java/io/PrintStream"), accessFlags := 74, slot := 10, constantValue := 0 }, { name := "props", type := (.object "java/util/Properties"), accessFlags := 10, slot := 11, constantValue := 0 }, { name := "lineSeparator", type := (.object "java/lang/String"), accessFlags := 10, slot := 12, constantValue := 0 }, { name := "bootLayer", type := (.object "java/lang/ModuleLayer"), accessFlags := 8, slot := 13, constantValue := 0 }]
  methods := #[k5m0, k5m1]
  instanceTypes := #[]
  staticTypes := #[(.object "java/io/InputStream"), (.object "java/io/PrintStream"), (.object "java/io/PrintStream"), (.object "java/io/InputStream"), .int, .int, .int, (.object "java/lang/SecurityManager"), (.object "java/lang/String"), (.object "java/io/Console"), (.object "java/io/PrintStream"), (.object "java/util/Properties"), (.object "java/lang/String"), (.object "java/lang/ModuleLayer")]
  resolved := Array.replicate 834 none
  statics := none }

def pool6 : Array CpInfo := pool [(1, u "java/lang/Cloneable"), (0, .class_ 1), (0, u "java/lang/Object"), (0, .class_ 3)] 3

/-- java/lang/Cloneable -/
def k6 : Class := { plain "java/lang/Cloneable" (some 0) with
  accessFlags := 1537
  interfaces := #[]
  cf := some (fileOf pool6 2 #[] #[] 1537 4 #[] #[])
  fields := #[]
  methods := #[]
  instanceTypes := #[]
  staticTypes := #[]
  resolved := Array.replicate 8 none
  statics := none }

def pool7 : Array CpInfo := pool [(1, u "java/io/Serializable"), (0, .class_ 1), (0, u "java/lang/Object"), (0, .class_ 3)] 3

/-- java/io/Serializable -/
def k7 : Class := { plain "java/io/Serializable" (some 0) with
  accessFlags := 1537
  interfaces := #[]
  cf := some (fileOf pool7 2 #[] #[] 1537 4 #[] #[])
  fields := #[]
  methods := #[]
  instanceTypes := #[]
  staticTypes := #[]
  resolved := Array.replicate 8 none
  statics := none }

/-- the primitive byte -/
def k8 : Class := { plain "byte" none with kind := .primitive 'B', accessFlags := 0x411 }
/-- [B -/
def k9 : Class := { plain "[B" (some 0) with kind := .array 8 .byte, interfaces := #[6, 7], accessFlags := 1041 }

/-- the primitive int -/
def k10 : Class := { plain "int" none with kind := .primitive 'I', accessFlags := 0x411 }
/-- [I -/
def k11 : Class := { plain "[I" (some 0) with kind := .array 10 .int, interfaces := #[6, 7], accessFlags := 1041 }

def heap : Heap := #[]
def classes : Array Class := #[k0, k1, k2, k3, k4, k5, k6, k7, k8, k9, k10, k11]
def interned : List (Array UInt16 × Addr) := []
def slotsUsed : Nat := 0
def theMethod : MethodId := ⟨1, 2⟩
def args0 : Array Value := #[.long 1, .int 2, .int 3]
def aboutOver (below : List Frame) : State where
  vm := { classes := classes, interned := interned.toArray }
  heap := heap
  slotsUsed := slotsUsed
  threads := #[{ frames := .invoking theMethod args0 :: below }]
def below0 : List Frame := [.native { method := ⟨0, 0⟩, args := #[] }]
def about1 : State := aboutOver below0
def p0 : Program := .bare "" "" ""
def e0 : Env := launch0.env 0 0 0
theorem w_frames : about1.frames = Frame.invoking theMethod args0 :: below0 := rfl
set_option maxRecDepth 65536 in
theorem w_args : argsFit about1.vm theMethod args0 = true := by decide +kernel
set_option maxRecDepth 65536 in
theorem w_heap : heapFits about1 = true := by decide +kernel
set_option maxRecDepth 65536 in
theorem w_runnable : about1.curStatus? = some .runnable := by decide +kernel
set_option maxRecDepth 65536 in
theorem w_alone : about1.alone = true := by decide +kernel
set_option maxRecDepth 65536 in
theorem w_named : about1.methodNamed? x = some theMethod := by decide +kernel
set_option maxRecDepth 65536 in
theorem w_hears : about1.hears theMethod below0 = true := by decide +kernel
set_option maxRecDepth 65536 in
theorem w_ripe : about1.ripe theMethod args0 below0 = true := by decide +kernel
theorem w_running : about1.status = .running := rfl
set_option maxRecDepth 65536 in
theorem w_room : about1.hasRoom e0.platform room_1 = true :=
  launch0.hasRoom_least _ room_1 (by decide +kernel) (by decide +kernel) (by decide +kernel) (by decide +kernel) (by decide +kernel) (by decide +kernel)
theorem allAtoms_all (ts : List Jvm.Cond) (a : Array Jvm.Value) (st : Jvm.State) : (allAtoms ts).before a st = ts.all (fun c => c.before a st) := by
  induction ts with
  | nil => rfl
  | cons c t ih =>
    show (Jvm.Cond.and c (allAtoms t)).before a st = _
    rw [Jvm.Cond.before_and, ih, List.all_cons]
def words1 : List Jvm.Cond := Jvm.Cond.code x code maxLocals ret :: tables_1
/-- a 'code' word, met by the world's own term for the bytes: nothing is compared byte by byte -/
theorem code_word {y : MethodName} {bytes : ByteArray} {mx : Nat} {rt : Option FieldType} {a : Array Value} {s : State} {m : MethodId} {meth : Method} {c : Code} (h1 : s.methodNamed? y = some m) (h2 : s.vm.method? m = some meth) (h3 : meth.code = some c) (h4 : c.code = bytes)
    (h5 : (c.maxLocals == mx && c.exceptionTable.isEmpty && decide (c.maxStack ≤ mostOperands) && decide (meth.sig.returnType = rt) && !meth.locks && decide (parseMethodDescriptor y.desc = some meth.sig)) = true) : (Jvm.Cond.code y bytes mx rt).before a s = true := by
  simp only [Bool.and_eq_true, beq_iff_eq, Bool.not_eq_true', decide_eq_true_eq] at h5
  obtain ⟨⟨⟨⟨⟨g1, g2⟩, g3⟩, g4⟩, g5⟩, g6⟩ := h5
  simp [Cond.before, Cond.holds, Cond.value, h1, h2, h3, h4, g1, g2, g3, g4, g5, g6]
def isCode : Jvm.Cond → Bool
  | .code _ _ _ _ => true
  | _ => false
theorem all_split {L : List Jvm.Cond} {P : Jvm.Cond → Bool} (h1 : L.all (fun c => isCode c || P c) = true) (h2 : ∀ c ∈ L.filter isCode, P c = true) : L.all P = true := by
  refine List.all_eq_true.mpr fun c hc => ?_
  have h := List.all_eq_true.mp h1 c hc
  rcases Bool.eq_false_or_eq_true (isCode c) with hi | hi
  · exact h2 c (List.mem_filter.mpr ⟨hc, hi⟩)
  · simpa [hi] using h
set_option maxRecDepth 65536 in
theorem w_c0 : (Jvm.Cond.code x code maxLocals ret).before args0 about1 = true := code_word (m := ⟨1, 2⟩) (meth := k1m2) (c := k1c2) (by decide +kernel) rfl rfl rfl (by decide +kernel)
set_option maxRecDepth 65536 in
theorem w_c1 : (Jvm.Cond.code ({ cls := "com/example/compokey/compokey/keys/ByteOutput", name := "<init>", desc := "()V" } : Jvm.MethodName) prog_9_method_1_code (1 : Nat) (Option.none : Option Jvm.ClassFile.FieldType)).before args0 about1 = true := code_word (m := ⟨2, 0⟩) (meth := k2m0) (c := k2c0) (by decide +kernel) rfl rfl rfl (by decide +kernel)
set_option maxRecDepth 65536 in
theorem w_c2 : (Jvm.Cond.code ({ cls := "java/lang/Object", name := "<init>", desc := "()V" } : Jvm.MethodName) object_method_1_code (1 : Nat) (Option.none : Option Jvm.ClassFile.FieldType)).before args0 about1 = true := code_word (m := ⟨0, 0⟩) (meth := k0m0) (c := k0c0) (by decide +kernel) rfl rfl rfl (by decide +kernel)
set_option maxRecDepth 65536 in
theorem w_c3 : (Jvm.Cond.code ({ cls := "com/example/compokey/compokey/keys/ByteOutput", name := "bigEndian", desc := "(JI)V" } : Jvm.MethodName) prog_9_method_4_code (5 : Nat) (Option.none : Option Jvm.ClassFile.FieldType)).before args0 about1 = true := code_word (m := ⟨2, 1⟩) (meth := k2m1) (c := k2c1) (by decide +kernel) rfl rfl rfl (by decide +kernel)
set_option maxRecDepth 65536 in
theorem w_c4 : (Jvm.Cond.code ({ cls := "com/example/compokey/compokey/keys/ByteOutput", name := "ensureCapacity", desc := "(I)V" } : Jvm.MethodName) prog_9_method_8_code (2 : Nat) (Option.none : Option Jvm.ClassFile.FieldType)).before args0 about1 = true := code_word (m := ⟨2, 5⟩) (meth := k2m5) (c := k2c5) (by decide +kernel) rfl rfl rfl (by decide +kernel)
set_option maxRecDepth 65536 in
theorem w_c5 : (Jvm.Cond.code ({ cls := "com/example/compokey/compokey/keys/ByteOutput", name := "invertFrom", desc := "(I)V" } : Jvm.MethodName) prog_9_method_6_code (3 : Nat) (Option.none : Option Jvm.ClassFile.FieldType)).before args0 about1 = true := code_word (m := ⟨2, 3⟩) (meth := k2m3) (c := k2c3) (by decide +kernel) rfl rfl rfl (by decide +kernel)
set_option maxRecDepth 65536 in
theorem w_c6 : (Jvm.Cond.code ({ cls := "com/example/compokey/compokey/keys/ByteOutput", name := "size", desc := "()I" } : Jvm.MethodName) prog_9_method_5_code (1 : Nat) (Option.some Jvm.ClassFile.FieldType.int)).before args0 about1 = true := code_word (m := ⟨2, 2⟩) (meth := k2m2) (c := k2c2) (by decide +kernel) rfl rfl rfl (by decide +kernel)
set_option maxRecDepth 65536 in
theorem w_c7 : (Jvm.Cond.code ({ cls := "com/example/compokey/compokey/keys/ByteOutput", name := "toByteArray", desc := "()[B" } : Jvm.MethodName) prog_9_method_7_code (1 : Nat) (Option.some (Jvm.ClassFile.FieldType.array Jvm.ClassFile.FieldType.byte))).before args0 about1 = true := code_word (m := ⟨2, 4⟩) (meth := k2m4) (c := k2c4) (by decide +kernel) rfl rfl rfl (by decide +kernel)
set_option maxRecDepth 65536 in
theorem w_c8 : (Jvm.Cond.code ({ cls := "java/util/Arrays", name := "copyOf", desc := "([BI)[B" } : Jvm.MethodName) jdk_65_method_121_code (3 : Nat) (Option.some (Jvm.ClassFile.FieldType.array Jvm.ClassFile.FieldType.byte))).before args0 about1 = true := code_word (m := ⟨3, 1⟩) (meth := k3m1) (c := k3c1) (by decide +kernel) rfl rfl rfl (by decide +kernel)
set_option maxRecDepth 65536 in
theorem w_c9 : (Jvm.Cond.code ({ cls := "java/lang/Math", name := "min", desc := "(II)I" } : Jvm.MethodName) jdk_29_method_69_code (2 : Nat) (Option.some Jvm.ClassFile.FieldType.int)).before args0 about1 = true := code_word (m := ⟨4, 1⟩) (meth := k4m1) (c := k4c1) (by decide +kernel) rfl rfl rfl (by decide +kernel)
set_option maxRecDepth 65536 in
theorem w_c10 : (Jvm.Cond.code ({ cls := "com/example/compokey/compokey/keys/ByteOutputInvertFromPinLaw", name := "ok", desc := "([BIIIJ)Z" } : Jvm.MethodName) method_2_code (8 : Nat) (Option.some Jvm.ClassFile.FieldType.boolean)).before args0 about1 = true := code_word (m := ⟨1, 1⟩) (meth := k1m1) (c := k1c1) (by decide +kernel) rfl rfl rfl (by decide +kernel)
def codes1 : List Jvm.Cond := [Jvm.Cond.code x code maxLocals ret, Jvm.Cond.code ({ cls := "com/example/compokey/compokey/keys/ByteOutput", name := "<init>", desc := "()V" } : Jvm.MethodName) prog_9_method_1_code (1 : Nat) (Option.none : Option Jvm.ClassFile.FieldType), Jvm.Cond.code ({ cls := "java/lang/Object", name := "<init>", desc := "()V" } : Jvm.MethodName) object_method_1_code (1 : Nat) (Option.none : Option Jvm.ClassFile.FieldType), Jvm.Cond.code ({ cls := "com/example/compokey/compokey/keys/ByteOutput", name := "bigEndian", desc := "(JI)V" } : Jvm.MethodName) prog_9_method_4_code (5 : Nat) (Option.none : Option Jvm.ClassFile.FieldType), Jvm.Cond.code ({ cls := "com/example/compokey/compokey/keys/ByteOutput", name := "ensureCapacity", desc := "(I)V" } : Jvm.MethodName) prog_9_method_8_code (2 : Nat) (Option.none : Option Jvm.ClassFile.FieldType), Jvm.Cond.code ({ cls := "com/example/compokey/compokey/keys/ByteOutput", name := "invertFrom", desc := "(I)V" } : Jvm.MethodName) prog_9_method_6_code (3 : Nat) (Option.none : Option Jvm.ClassFile.FieldType), Jvm.Cond.code ({ cls := "com/example/compokey/compokey/keys/ByteOutput", name := "size", desc := "()I" } : Jvm.MethodName) prog_9_method_5_code (1 : Nat) (Option.some Jvm.ClassFile.FieldType.int), Jvm.Cond.code ({ cls := "com/example/compokey/compokey/keys/ByteOutput", name := "toByteArray", desc := "()[B" } : Jvm.MethodName) prog_9_method_7_code (1 : Nat) (Option.some (Jvm.ClassFile.FieldType.array Jvm.ClassFile.FieldType.byte)), Jvm.Cond.code ({ cls := "java/util/Arrays", name := "copyOf", desc := "([BI)[B" } : Jvm.MethodName) jdk_65_method_121_code (3 : Nat) (Option.some (Jvm.ClassFile.FieldType.array Jvm.ClassFile.FieldType.byte)), Jvm.Cond.code ({ cls := "java/lang/Math", name := "min", desc := "(II)I" } : Jvm.MethodName) jdk_29_method_69_code (2 : Nat) (Option.some Jvm.ClassFile.FieldType.int), Jvm.Cond.code ({ cls := "com/example/compokey/compokey/keys/ByteOutputInvertFromPinLaw", name := "ok", desc := "([BIIIJ)Z" } : Jvm.MethodName) method_2_code (8 : Nat) (Option.some Jvm.ClassFile.FieldType.boolean)]
set_option maxRecDepth 65536 in
theorem codes_eq : words1.filter isCode = codes1 := rfl
theorem w_codes : ∀ c ∈ words1.filter isCode, c.before args0 about1 = true := by
  rw [codes_eq]
  intro c hc
  simp only [codes1, List.mem_cons, List.not_mem_nil, or_false] at hc
  rcases hc with rfl | rfl | rfl | rfl | rfl | rfl | rfl | rfl | rfl | rfl | rfl
  · exact w_c0
  · exact w_c1
  · exact w_c2
  · exact w_c3
  · exact w_c4
  · exact w_c5
  · exact w_c6
  · exact w_c7
  · exact w_c8
  · exact w_c9
  · exact w_c10
set_option maxRecDepth 65536 in
theorem w_t1 : (words1.take 24).all (fun c => isCode c || c.before args0 about1) = true := by decide +kernel
set_option maxRecDepth 65536 in
theorem w_t2 : ((words1.drop 24).take 24).all (fun c => isCode c || c.before args0 about1) = true := by decide +kernel
set_option maxRecDepth 65536 in
theorem w_t3 : ((words1.drop 24).drop 24).all (fun c => isCode c || c.before args0 about1) = true := by decide +kernel
theorem w_tables : (allAtoms (Jvm.Cond.code x code maxLocals ret :: tables_1)).before args0 about1 = true := by
  rw [allAtoms_all]
  show words1.all (fun c => c.before args0 about1) = true
  refine all_split ?_ w_codes
  rw [← List.take_append_drop 24 words1, List.all_append, w_t1, ← List.take_append_drop 24 (words1.drop 24), List.all_append, w_t2, w_t3]
  rfl
set_option maxRecDepth 65536 in
theorem w_case : (Jvm.Cond.and given_1 narrow_1).before args0 about1 = true := by decide +kernel
theorem w_applies : (headSpec (Jvm.Cond.code x code maxLocals ret :: tables_1) room_1).applies x e0.platform about1 = true :=
  (Spec.applies_iff w_frames).mpr ⟨w_running, w_runnable, w_alone, w_named, w_hears, w_ripe, w_room, w_tables⟩
theorem atStart : AtStart classFile x code maxLocals ret World_1 tables_1 room_1 Calls_1 rest_1 Pre_1 launch0 p0 e0 about1 theMethod args0 below0 :=
  ⟨lists_1, trivial, launch0.admits_env _ _ _, launch0.least_env, fairChoices_fair.cas, fairChoices_fair.clock, w_frames, w_args, w_heap, w_applies, trivial, trivial, w_case⟩
end start1
theorem witness_1 : WitnessClaimed_1 := ⟨start1.p0, start1.e0, start1.about1, start1.theMethod, start1.args0, start1.below0, start1.atStart⟩
end Jvm.Pilot.@@N@@
