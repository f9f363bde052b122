import JvmDerived
import JvmDerived.Pilot.@@N@@Statement
import JvmDerived.Pilot.@@N@@Code
set_option linter.unusedVariables false
set_option linter.unusedSimpArgs false
namespace Jvm.Pilot.@@N@@
open Jvm Jvm.ClassFile Sem Op Lib Jvm.Free Jvm.Stand Jvm.LawKit Jvm.RoadKit Bundle Jvm.Pilot.@@N@@.Jvm.D
/-! OWN PRELUDE: a walk in continuation form: 'Goes .. U': from U on the body comes to its return, with Q -/
section OwnPrelude
variable {p : Program} {l : Launch} {e : Env} {R : Room} {s : State} {m : MethodId} {args : Array Value} {below : List Frame} {meth : Method} {c : Code} {T U U' : State} {locs : List Loc} {cells slots ce sl : Nat} {Q : Option Value → Heap → List Loc → Prop}
def Goes (p : Program) (e : Env) (s : State) (below : List Frame) (Q : Option Value → Heap → List Loc → Prop) (ce sl : Nat) (U : State) : Prop :=
  ∃ t o, Steps p.tables e below U t ∧ t.status = .running ∧ Ended t below o ∧ ∃ v L, o = .returned v ∧ Q v t.heap L ∧ FrameEnd s o t L ce sl
theorem Goes.st (h : ∀ t, Steps p.tables e below U' t → Steps p.tables e below U t) (k : Goes p e s below Q ce sl U') : Goes p e s below Q ce sl U := by
  obtain ⟨t, o, h1, r⟩ := k
  exact ⟨t, o, h t h1, r⟩
theorem Goes.tr (h : Steps p.tables e below U U') (k : Goes p e s below Q ce sl U') : Goes p e s below Q ce sl U := by
  obtain ⟨t, o, h1, r⟩ := k
  exact ⟨t, o, h.trans h1, r⟩
theorem Goes.out (X : Stand p l e R s m args below meth c T locs cells slots) (hlocks : meth.locks = false) {v : Option Value} (hv : meth.sig.returnType = none → v = none) (hc : cells ≤ ce) (hs : slots ≤ sl) (hq : Q v T.heap locs)
    (k : ∀ fs, (∀ (f : JFrame) (acts : List Action), f.method = m → f.locked = none → f.entered = [] → (doReturn e (T.setTop f) acts v).1 = T.setFrames fs) → Steps p.tables e below U (T.setFrames fs)) : Goes p e s below Q ce sl U := by
  obtain ⟨fs, hr, hrun, hended, hW, hsame⟩ := X.leave (v := v) hv hlocks
  exact ⟨_, _, k fs hr, hrun, hended, _, _, rfl, hq, ⟨_, rfl⟩, hW, hsame.mono hc hs⟩
theorem Goes.retI (X : Stand p l e R s m args below meth c T locs cells slots) (hx : p.tables.exec = Jvm.exec) (hlocks : meth.locks = false) {pc : Nat} {Ls : Array Slot} {z : Int32} {rest : List Value} (hret : meth.sig.returnType = some .int) (hd : decode c.code pc = .ok (.ireturn, 1))
    (hc : cells ≤ ce) (hs : slots ≤ sl) (hq : Q (some (.int z)) T.heap locs) : Goes p e s below Q ce sl (T.setTop (mkF m pc Ls (.int z :: rest))) :=
  Goes.out X hlocks (fun h => by rw [hret] at h; cases h) hc hs hq fun fs hl => retOut X hx hret rfl (Or.inl ⟨rfl, Or.inl rfl, _, rfl⟩) hd hl
theorem Goes.retZ (X : Stand p l e R s m args below meth c T locs cells slots) (hx : p.tables.exec = Jvm.exec) (hlocks : meth.locks = false) {pc : Nat} {Ls : Array Slot} {z : Int32} {rest : List Value} (hret : meth.sig.returnType = some .boolean) (hd : decode c.code pc = .ok (.ireturn, 1))
    (hz : z &&& 1 = z) (hc : cells ≤ ce) (hs : slots ≤ sl) (hq : Q (some (.int z)) T.heap locs) : Goes p e s below Q ce sl (T.setTop (mkF m pc Ls (.int z :: rest))) :=
  Goes.out X hlocks (fun h => by rw [hret] at h; cases h) hc hs hq fun fs hl => retOut X hx hret (by show Value.int (z &&& 1) = _; rw [hz]) (Or.inl ⟨rfl, Or.inr (Or.inl rfl), _, rfl⟩) hd hl
theorem Goes.retJ (X : Stand p l e R s m args below meth c T locs cells slots) (hx : p.tables.exec = Jvm.exec) (hlocks : meth.locks = false) {pc : Nat} {Ls : Array Slot} {z : Int64} {rest : List Value} (hret : meth.sig.returnType = some .long) (hd : decode c.code pc = .ok (.lreturn, 1))
    (hc : cells ≤ ce) (hs : slots ≤ sl) (hq : Q (some (.long z)) T.heap locs) : Goes p e s below Q ce sl (T.setTop (mkF m pc Ls (.long z :: rest))) :=
  Goes.out X hlocks (fun h => by rw [hret] at h; cases h) hc hs hq fun fs hl => retOut X hx hret rfl (Or.inr (Or.inl ⟨rfl, rfl, _, rfl⟩)) hd hl
theorem Goes.retA (X : Stand p l e R s m args below meth c T locs cells slots) (hx : p.tables.exec = Jvm.exec) (hlocks : meth.locks = false) {pc : Nat} {Ls : Array Slot} {w : Value} {t : FieldType} {rest : List Value} (hret : meth.sig.returnType = some t) (hd : decode c.code pc = .ok (.areturn, 1))
    (ht : t.isReference = true) (hw : w.isRef = true) (hn : narrow t w = w) (hc : cells ≤ ce) (hs : slots ≤ sl) (hq : Q (some w) T.heap locs) : Goes p e s below Q ce sl (T.setTop (mkF m pc Ls (w :: rest))) :=
  Goes.out X hlocks (fun h => by rw [hret] at h; cases h) hc hs hq fun fs hl => retOut X hx hret hn (Or.inr (Or.inr (Or.inr (Or.inr ⟨rfl, ht, hw⟩)))) hd hl
theorem Goes.retV (X : Stand p l e R s m args below meth c T locs cells slots) (hx : p.tables.exec = Jvm.exec) (hlocks : meth.locks = false) {pc : Nat} {Ls : Array Slot} (hret : meth.sig.returnType = none) (hd : decode c.code pc = .ok (.return_, 1))
    (hc : cells ≤ ce) (hs : slots ≤ sl) (hq : Q none T.heap locs) : Goes p e s below Q ce sl (T.setTop (mkF m pc Ls [])) :=
  Goes.out X hlocks (fun _ => rfl) hc hs hq fun fs hl => X.returnOut hx hret hd hl
/-- a boolean as the machine has it -/
def b2i (b : Bool) : Int32 := if b then 1 else 0
theorem b2i_one (b : Bool) : b2i b &&& 1 = b2i b := by cases b <;> rfl
theorem b2i_t {b : Bool} (h : ¬ b2i b = 0) : b = true := by cases b; exact absurd rfl h; rfl
theorem b2i_f {b : Bool} (h : b2i b = 0) : b = false := by cases b; rfl; exact absurd h (by decide)
theorem Exa_ns {Z : State} {h : Heap} {a : Addr} {C : String} (E : Exa Z h a C) : ∀ cell : Cell, h[a]? = some cell → cell.vm.isStatics = false := fun cell hc => by
  obtain ⟨c1, _, h1, -, -, h4, -⟩ := E
  cases h1.symm.trans hc
  exact h4
theorem Sta_keep {Z : State} {h h' : Heap} {C n d : String} {v : Value} {ws : List Addr} (F : Sta Z h C n d v) (K : Keep h h' ws) (q : ∀ x ∈ ws, ∀ cell : Cell, h[x]? = some cell → cell.vm.isStatics = false) : Sta Z h' C n d v := by
  obtain ⟨cf, i, k, f, st, cell, h1, h2, h3, h4, h5, h6, h7⟩ := F
  exact ⟨cf, i, k, f, st, cell, h1, h2, h3, h4, K.2.1 _ _ h5 (fun y => by have := q _ y _ h5; rw [h6] at this; cases this), h6, h7⟩
theorem own_selp {u : State} {as : Array Value} {y : MethodName} {n : Nat} (hins : (Cond.instantiable y.cls n).before as u = true) (hpriv : u.PrivateAt y) (hinst : (Cond.instanceMethod y).before as u = true) (hy : y.cls ≠ "java/lang/invoke/MethodHandle" ∧ y.cls ≠ "java/lang/invoke/VarHandle") : (Cond.selects y.cls y y).before as u = true := by
  obtain ⟨c, k, hc, hk, -, hniab, -, -⟩ := Cond.instantiable_spec hins
  exact selects_self_of_private hc hk (Bool.or_eq_false_iff.mp hniab).1 hpriv hinst hy
end OwnPrelude

def own_b0 (x : Int32) : Int32 := ((x.toInt8.toInt32).toInt8.toInt32)
def own_b1 (x : Int32) : Int32 := (((x >>> ((8 : Int32) &&& 31)).toInt8.toInt32).toInt8.toInt32)
def own_b2 (x : Int32) : Int32 := (((x >>> ((16 : Int32) &&& 31)).toInt8.toInt32).toInt8.toInt32)
def own_b3 (x : Int32) : Int32 := (((x >>> ((24 : Int32) &&& 31)).toInt8.toInt32).toInt8.toInt32)
def own_fit (x : Int32) : Prop := ¬ x < (-8388608 : Int32) ∧ ¬ (8388607 : Int32) < x
def P3 (Z : State) (h : Heap) (a arr : Addr) (k : ClassId) (x0 x1 x2 : Int32) : Prop :=
  Exa Z h a "com/example/chaise/chaise/core/PackedInts" ∧ Fld Z h a "com/example/chaise/chaise/core/PackedInts" "length" "I" (.int (3 : Int32)) ∧ Fld Z h a "com/example/chaise/chaise/core/PackedInts" "bytes" "[B" (.ref arr) ∧ Fld Z h a "com/example/chaise/chaise/core/PackedInts" "width" "I" (.int (3 : Int32)) ∧ Arv Z h arr k .byte (9 : Int32) [(.int (own_b0 x0)), (.int (own_b1 x0)), (.int (own_b2 x0)), (.int (own_b0 x1)), (.int (own_b1 x1)), (.int (own_b2 x1)), (.int (own_b0 x2)), (.int (own_b1 x2)), (.int (own_b2 x2))] (.int (0 : Int32)) ∧ a ≠ arr ∧ own_fit x0 ∧ own_fit x1 ∧ own_fit x2
theorem P3.keep {Z : State} {h h' : Heap} {a arr : Addr} {k : ClassId} {x0 x1 x2 : Int32} {ws : List Addr} (I : P3 Z h a arr k x0 x1 x2) (K : Keep h h' ws) (h1 : a ∉ ws) (h2 : arr ∉ ws) : P3 Z h' a arr k x0 x1 x2 := by
  obtain ⟨i1, i2, i3, i4, i5, r⟩ := I
  exact ⟨i1.keep K, i2.keep K h1, i3.keep K h1, i4.keep K h1, i5.keep K h2, r⟩
def P4 (Z : State) (h : Heap) (a arr : Addr) (k : ClassId) (x0 x1 x2 : Int32) : Prop :=
  Exa Z h a "com/example/chaise/chaise/core/PackedInts" ∧ Fld Z h a "com/example/chaise/chaise/core/PackedInts" "length" "I" (.int (3 : Int32)) ∧ Fld Z h a "com/example/chaise/chaise/core/PackedInts" "bytes" "[B" (.ref arr) ∧ Fld Z h a "com/example/chaise/chaise/core/PackedInts" "width" "I" (.int (4 : Int32)) ∧ Arv Z h arr k .byte (12 : Int32) [(.int (own_b0 x0)), (.int (own_b1 x0)), (.int (own_b2 x0)), (.int (own_b3 x0)), (.int (own_b0 x1)), (.int (own_b1 x1)), (.int (own_b2 x1)), (.int (own_b3 x1)), (.int (own_b0 x2)), (.int (own_b1 x2)), (.int (own_b2 x2)), (.int (own_b3 x2))] (.int (0 : Int32)) ∧ a ≠ arr
theorem P4.keep {Z : State} {h h' : Heap} {a arr : Addr} {k : ClassId} {x0 x1 x2 : Int32} {ws : List Addr} (I : P4 Z h a arr k x0 x1 x2) (K : Keep h h' ws) (h1 : a ∉ ws) (h2 : arr ∉ ws) : P4 Z h' a arr k x0 x1 x2 := by
  obtain ⟨i1, i2, i3, i4, i5, r⟩ := I
  exact ⟨i1.keep K, i2.keep K h1, i3.keep K h1, i4.keep K h1, i5.keep K h2, r⟩
def PI (Z : State) (h : Heap) (a : Addr) (n0 : Nat) (x0 x1 x2 : Int32) : Prop := (∃ arr k, P3 Z h a arr k x0 x1 x2 ∧ n0 ≤ arr) ∨ (∃ arr k, P4 Z h a arr k x0 x1 x2 ∧ n0 ≤ arr)
theorem PI_exa {Z : State} {h : Heap} {a : Addr} {n0 : Nat} {x0 x1 x2 : Int32} (I : PI Z h a n0 x0 x1 x2) : Exa Z h a "com/example/chaise/chaise/core/PackedInts" := by
  rcases I with ⟨_, _, P, _⟩ | ⟨_, _, P, _⟩ <;> exact P.1
theorem own_z0 : own_b0 0 = 0 := by decide +kernel
theorem own_z1 : own_b1 0 = 0 := by decide +kernel
theorem own_z2 : own_b2 0 = 0 := by decide +kernel
theorem own_z3 : own_b3 0 = 0 := by decide +kernel
theorem own_fit0 : own_fit 0 := by unfold own_fit; decide
theorem own_nn (x : Int32) : x.toInt8.toInt32.toInt8.toInt32 = x.toInt8.toInt32 := by simp
theorem own_low (x : Int32) : ((((own_b0 x) &&& (255 : Int32)) ||| (((own_b1 x) &&& (255 : Int32)) <<< ((8 : Int32) &&& 31)))).toInt = x.toInt % 65536 := by
  have f0 := c_i2b x
  have s1 := c_ishr x (8 : Int32) 8 (by decide)
  have f1 := c_i2b (x >>> ((8 : Int32) &&& 31))
  unfold own_b0 own_b1
  rw [own_nn, own_nn]
  generalize x >>> ((8 : Int32) &&& 31) = y1 at *
  have m0 := c_mask (x.toInt8.toInt32) 255 8 (by decide) (by decide)
  have m1 := c_mask (y1.toInt8.toInt32) 255 8 (by decide) (by decide)
  generalize x.toInt8.toInt32 &&& (255 : Int32) = u0 at *
  generalize y1.toInt8.toInt32 &&& (255 : Int32) = u1 at *
  have l1 := c_ishl u1 (8 : Int32) 8 (by decide)
  have l2 := rng32 (u1 <<< ((8 : Int32) &&& 31))
  generalize u1 <<< ((8 : Int32) &&& 31) = v1 at *
  have r1 := c_or' u0 v1 8 (by decide) 256 (by decide) (by omega) (by omega) (by omega)
  have r2 := rng32 (u0 ||| v1)
  have rx := rng32 x
  omega
theorem own_d3 (x : Int32) (hf : own_fit x) : ((((own_b0 x) &&& (255 : Int32)) ||| (((own_b1 x) &&& (255 : Int32)) <<< ((8 : Int32) &&& 31))) ||| ((own_b2 x) <<< ((16 : Int32) &&& 31))) = x := by
  have hl := own_low x
  generalize (((own_b0 x) &&& (255 : Int32)) ||| (((own_b1 x) &&& (255 : Int32)) <<< ((8 : Int32) &&& 31))) = lo at *
  have s1 := c_ishr x (16 : Int32) 16 (by decide)
  have f1 := c_i2b (x >>> ((16 : Int32) &&& 31))
  unfold own_b2
  rw [own_nn]
  generalize x >>> ((16 : Int32) &&& 31) = y at *
  have e1 : (-8388608 : Int32).toInt = -8388608 := rfl
  have e2 : (8388607 : Int32).toInt = 8388607 := rfl
  have h1 := hf.1
  have h2 := hf.2
  rw [Int32.lt_iff_toInt_lt] at h1 h2
  generalize y.toInt8.toInt32 = b at *
  have l1 := c_ishl b (16 : Int32) 16 (by decide)
  have l2 := rng32 (b <<< ((16 : Int32) &&& 31))
  generalize b <<< ((16 : Int32) &&& 31) = v at *
  have r1 := c_or' lo v 16 (by decide) 65536 (by decide) (by omega) (by omega) (by omega)
  have r2 := rng32 (lo ||| v)
  have rx := rng32 x
  rw [← Int32.toInt_inj]
  omega
theorem own_d4 (x : Int32) : (((((own_b0 x) &&& (255 : Int32)) ||| (((own_b1 x) &&& (255 : Int32)) <<< ((8 : Int32) &&& 31))) ||| (((own_b2 x) &&& (255 : Int32)) <<< ((16 : Int32) &&& 31))) ||| ((own_b3 x) <<< ((24 : Int32) &&& 31))) = x := by
  have hl := own_low x
  generalize (((own_b0 x) &&& (255 : Int32)) ||| (((own_b1 x) &&& (255 : Int32)) <<< ((8 : Int32) &&& 31))) = lo at *
  have s1 := c_ishr x (16 : Int32) 16 (by decide)
  have f1 := c_i2b (x >>> ((16 : Int32) &&& 31))
  have s2 := c_ishr x (24 : Int32) 24 (by decide)
  have f2 := c_i2b (x >>> ((24 : Int32) &&& 31))
  unfold own_b2 own_b3
  rw [own_nn, own_nn]
  generalize x >>> ((16 : Int32) &&& 31) = y at *
  generalize x >>> ((24 : Int32) &&& 31) = y2 at *
  generalize y2.toInt8.toInt32 = b3 at *
  have m1 := c_mask (y.toInt8.toInt32) 255 8 (by decide) (by decide)
  generalize y.toInt8.toInt32 &&& (255 : Int32) = u at *
  have l1 := c_ishl u (16 : Int32) 16 (by decide)
  have l2 := rng32 (u <<< ((16 : Int32) &&& 31))
  generalize u <<< ((16 : Int32) &&& 31) = v at *
  have r1 := c_or' lo v 16 (by decide) 65536 (by decide) (by omega) (by omega) (by omega)
  have r2 := rng32 (lo ||| v)
  generalize lo ||| v = w at *
  have l3 := c_ishl b3 (24 : Int32) 24 (by decide)
  have l4 := rng32 (b3 <<< ((24 : Int32) &&& 31))
  generalize b3 <<< ((24 : Int32) &&& 31) = v3 at *
  have rx := rng32 x
  have r3 := c_or' w v3 24 (by decide) 16777216 (by decide) (by omega) (by omega) (by omega)
  have r4 := rng32 (w ||| v3)
  rw [← Int32.toInt_inj]
  omega
theorem d2_0 : decode prog_81_method_2_code 0 = .ok (.aload_n 0, 1) := by decide +kernel
theorem d2_1 : decode prog_81_method_2_code 1 = .ok (.invokespecial 9, 3) := by decide +kernel
theorem d2_4 : decode prog_81_method_2_code 4 = .ok (.iload_n 1, 1) := by decide +kernel
theorem d2_5 : decode prog_81_method_2_code 5 = .ok (.i2l, 1) := by decide +kernel
theorem d2_6 : decode prog_81_method_2_code 6 = .ok (.iload_n 2, 1) := by decide +kernel
theorem d2_7 : decode prog_81_method_2_code 7 = .ok (.i2l, 1) := by decide +kernel
theorem d2_8 : decode prog_81_method_2_code 8 = .ok (.lmul, 1) := by decide +kernel
theorem d2_9 : decode prog_81_method_2_code 9 = .ok (.lstore_n 3, 1) := by decide +kernel
theorem d2_10 : decode prog_81_method_2_code 10 = .ok (.iload_n 1, 1) := by decide +kernel
theorem d2_11 : decode prog_81_method_2_code 11 = .ok (.ifCond .ge 15, 3) := by decide +kernel
theorem d2_26 : decode prog_81_method_2_code 26 = .ok (.lload_n 3, 1) := by decide +kernel
theorem d2_27 : decode prog_81_method_2_code 27 = .ok (.ldc2_w 23, 3) := by decide +kernel
theorem d2_30 : decode prog_81_method_2_code 30 = .ok (.lcmp, 1) := by decide +kernel
theorem d2_31 : decode prog_81_method_2_code 31 = .ok (.ifCond .le 17, 3) := by decide +kernel
theorem d2_48 : decode prog_81_method_2_code 48 = .ok (.aload_n 0, 1) := by decide +kernel
theorem d2_49 : decode prog_81_method_2_code 49 = .ok (.iload_n 1, 1) := by decide +kernel
theorem d2_50 : decode prog_81_method_2_code 50 = .ok (.putfield 31, 3) := by decide +kernel
theorem d2_53 : decode prog_81_method_2_code 53 = .ok (.aload_n 0, 1) := by decide +kernel
theorem d2_54 : decode prog_81_method_2_code 54 = .ok (.lload_n 3, 1) := by decide +kernel
theorem d2_55 : decode prog_81_method_2_code 55 = .ok (.l2i, 1) := by decide +kernel
theorem d2_56 : decode prog_81_method_2_code 56 = .ok (.newarray .byte, 2) := by decide +kernel
theorem d2_58 : decode prog_81_method_2_code 58 = .ok (.putfield 35, 3) := by decide +kernel
theorem d2_61 : decode prog_81_method_2_code 61 = .ok (.aload_n 0, 1) := by decide +kernel
theorem d2_62 : decode prog_81_method_2_code 62 = .ok (.iload_n 2, 1) := by decide +kernel
theorem d2_63 : decode prog_81_method_2_code 63 = .ok (.putfield 39, 3) := by decide +kernel
theorem d2_66 : decode prog_81_method_2_code 66 = .ok (.return_, 1) := by decide +kernel
theorem pn_0 : plainName "com/example/chaise/chaise/core/PackedInts" = true := by first | (simp [plainName, overriddenIn]; done) | decide +kernel
theorem ef_rmC3 (m : MethodId) (a1 : Addr) (p2 : Int32) (p3 : Int32) : entryFrame m #[(.ref a1), (.int p2), (.int p3)] 5 = mkF m 0 #[.val (.ref a1), .val (.int p2), .val (.int p3), .unset, .unset] [] := by first | (simp [entryFrame, mkF, argsToLocals, Value.category]; done) | rfl
def Q_rmC3 (Z : State) (a1 : Addr) (p2 : Int32) (p3 : Int32) (h0 : Heap) (n0 : Nat) (v : Option Value) (h : Heap) (L : List Loc) : Prop := v = none ∧ Fr n0 L ∧ Keep h0 h [a1] ∧ ∃ arr k, P3 Z h a1 arr k 0 0 0 ∧ n0 ≤ arr ∧ h0.size ≤ arr
set_option maxRecDepth 65536 in
set_option maxHeartbeats 40000000 in
theorem rmC3 (l : Launch) (Z : State) (a0 : Array Value) (hw : ∀ d ∈ tables_1, d.before a0 Z = true) (ws : List Jvm.Cond) (a1 : Addr) (p2 : Int32) (p3 : Int32) (h0 : Heap) (n0 : Nat) (Z0 : n0 ≤ h0.size) (E_a1 : Exa Z h0 a1 "com/example/chaise/chaise/core/PackedInts") (F_length_a1 : Fld Z h0 a1 "com/example/chaise/chaise/core/PackedInts" "length" "I" (.int (0 : Int32))) (F_bytes_a1 : Fld Z h0 a1 "com/example/chaise/chaise/core/PackedInts" "bytes" "[B" .null) (F_width_a1 : Fld Z h0 a1 "com/example/chaise/chaise/core/PackedInts" "width" "I" (.int (0 : Int32))) (g_a1 : n0 ≤ a1) (e2 : p2 = (3 : Int32)) (e3 : p3 = (3 : Int32)) :
    MetFree l (⟨"com/example/chaise/chaise/core/PackedInts", "<init>", "(II)V"⟩ : MethodName) (head1 (Jvm.Cond.code (⟨"com/example/chaise/chaise/core/PackedInts", "<init>", "(II)V"⟩ : MethodName) prog_81_method_2_code 5 none :: ws) ({ frames := 1, cells := 1, slots := 9, locals := 12 } : Room)) (fun a U => a = #[(.ref a1), (.int p2), (.int p3)] ∧ Z.Warmed39 U.vm ∧ U.heap = h0) (fun _ _ _ _ _ => True) (fun _ U o U' => ∃ v L, o = .returned v ∧ Q_rmC3 Z a1 (3 : Int32) (3 : Int32) h0 n0 v U'.heap L ∧ FrameEnd U o U' L ({ frames := 1, cells := 1, slots := 9, locals := 12 } : Room).cells ({ frames := 1, cells := 1, slots := 9, locals := 12 } : Room).slots) := by
  refine MetFree.of_bodySF (plainFor_of_name pn_0) hisR ?_
  intro p e s m args below meth c s₁ Bd hml0 hP hK
  obtain ⟨rfl, hZ, hh⟩ := hP
  have hx := Bd.exec
  have hby := Bd.bytes
  have hml : c.maxLocals = 5 := hml0
  have hown : s.vm.findClass "com/example/chaise/chaise/core/PackedInts" = some m.cls := findClass_of_methodNamed Bd.named
  have hnm := (name_of_methodNamed Bd.named Bd.method).1
  have X0 : Stand p l e ({ frames := 1, cells := 1, slots := 9, locals := 12 } : Room) s m #[(.ref a1), (.int p2), (.int p3)] below meth c s₁ [] 0 0 := Stand.of_body Bd
  have e0 : s₁.heap = h0 := by rw [← hh, Bd.state]; rfl
  have N0 := Fr.nil n0
  show Goes p e s below (fun v h L => Q_rmC3 Z a1 (3 : Int32) (3 : Int32) h0 n0 v h L) ({ frames := 1, cells := 1, slots := 9, locals := 12 } : Room).cells ({ frames := 1, cells := 1, slots := 9, locals := 12 } : Room).slots (s₁.setTop (entryFrame m #[(.ref a1), (.int p2), (.int p3)] 5))
  refine Goes.st (U' := s₁.setTop (mkF m 0 #[.val (.ref a1), .val (.int p2), .val (.int p3), .unset, .unset] [])) (fun t k => castTop (ef_rmC3 m a1 p2 p3) k) ?_
  subst e2
  subst e3
  refine Goes.st (U' := s₁.setTop (mkF m 1 #[.val (.ref a1), .val (.int (3 : Int32)), .val (.int (3 : Int32)), .unset, .unset] [(.ref a1)])) (fun t k => XS.aloadN X0.here hx rfl (hb hby d2_0) rfl rfl k) ?_
  obtain ⟨T1, X1, e1, st1⟩ := initO X0 hx hZ hown (hw _ (List.mem_of_getElem? (i := 9) rfl)) (hw _ (List.mem_of_getElem? (i := 10) rfl)) (hw _ (List.mem_of_getElem? (i := 11) rfl)) e0 (g := (mkF m 1 #[.val (.ref a1), .val (.int (3 : Int32)), .val (.int (3 : Int32)), .unset, .unset] [(.ref a1)])) rfl (by rw [hml]; rfl) rfl (hb hby d2_1) (by decide) (W := 0) (by show 2 * 0 + _ ≤ _; exact Nat.le_of_eq rfl) (by decide)
  refine Goes.st (U' := T1.setTop (mkF m 4 #[.val (.ref a1), .val (.int (3 : Int32)), .val (.int (3 : Int32)), .unset, .unset] [])) (fun t k => st1 t k) ?_
  refine Goes.st (U' := T1.setTop (mkF m 5 #[.val (.ref a1), .val (.int (3 : Int32)), .val (.int (3 : Int32)), .unset, .unset] [(.int (3 : Int32))])) (fun t k => XS.iloadN X1.here hx rfl (hb hby d2_4) rfl k) ?_
  refine Goes.st (U' := T1.setTop (mkF m 6 #[.val (.ref a1), .val (.int (3 : Int32)), .val (.int (3 : Int32)), .unset, .unset] [(.long (3 : Int64))])) (fun t k => XS.i2l X1.here hx rfl (hb hby d2_5) rfl k) ?_
  refine Goes.st (U' := T1.setTop (mkF m 7 #[.val (.ref a1), .val (.int (3 : Int32)), .val (.int (3 : Int32)), .unset, .unset] [(.int (3 : Int32)), (.long (3 : Int64))])) (fun t k => XS.iloadN X1.here hx rfl (hb hby d2_6) rfl k) ?_
  refine Goes.st (U' := T1.setTop (mkF m 8 #[.val (.ref a1), .val (.int (3 : Int32)), .val (.int (3 : Int32)), .unset, .unset] [(.long (3 : Int64)), (.long (3 : Int64))])) (fun t k => XS.i2l X1.here hx rfl (hb hby d2_7) rfl k) ?_
  refine Goes.st (U' := T1.setTop (mkF m 9 #[.val (.ref a1), .val (.int (3 : Int32)), .val (.int (3 : Int32)), .unset, .unset] [(.long (9 : Int64))])) (fun t k => XS.lmul X1.here hx rfl (hb hby d2_8) rfl k) ?_
  refine Goes.st (U' := T1.setTop (mkF m 10 #[.val (.ref a1), .val (.int (3 : Int32)), .val (.int (3 : Int32)), .val (.long (9 : Int64)), .second] [])) (fun t k => XS.lstoreN X1.here hx rfl (hb hby d2_9) rfl (l' := #[.val (.ref a1), .val (.int (3 : Int32)), .val (.int (3 : Int32)), .val (.long (9 : Int64)), .second]) rfl k) ?_
  refine Goes.st (U' := T1.setTop (mkF m 11 #[.val (.ref a1), .val (.int (3 : Int32)), .val (.int (3 : Int32)), .val (.long (9 : Int64)), .second] [(.int (3 : Int32))])) (fun t k => XS.iloadN X1.here hx rfl (hb hby d2_10) rfl k) ?_
  refine Goes.st (U' := T1.setTop (mkF m 26 #[.val (.ref a1), .val (.int (3 : Int32)), .val (.int (3 : Int32)), .val (.long (9 : Int64)), .second] [])) (fun t k => XS.ifYes X1.here hx rfl (pc0 := 11) (pc' := 26) rfl (hb hby d2_11) rfl ((if0 _ _).trans (flt (by decide : ¬ ((3 : Int32) < (0 : Int32)))).2.1) (by decide) (by decide) k) ?_
  refine Goes.st (U' := T1.setTop (mkF m 27 #[.val (.ref a1), .val (.int (3 : Int32)), .val (.int (3 : Int32)), .val (.long (9 : Int64)), .second] [(.long (9 : Int64))])) (fun t k => XS.lloadN X1.here hx rfl (hb hby d2_26) rfl k) ?_
  refine Goes.st (U' := T1.setTop (mkF m 30 #[.val (.ref a1), .val (.int (3 : Int32)), .val (.int (3 : Int32)), .val (.long (9 : Int64)), .second] [(.long (2147483639 : Int64)), (.long (9 : Int64))])) (fun t k => X1.ldc2Long hx hown (mvT hZ (hw _ (List.mem_of_getElem? (i := 12) rfl))) (g := (mkF m 27 #[.val (.ref a1), .val (.int (3 : Int32)), .val (.int (3 : Int32)), .val (.long (9 : Int64)), .second] [(.long (9 : Int64))])) rfl (hb hby d2_27) t k) ?_
  refine Goes.st (U' := T1.setTop (mkF m 31 #[.val (.ref a1), .val (.int (3 : Int32)), .val (.int (3 : Int32)), .val (.long (9 : Int64)), .second] [(.int (lcmpW (9 : Int64) (2147483639 : Int64)))])) (fun t k => XS.lcmp X1.here hx rfl (hb hby d2_30) rfl k) ?_
  refine Goes.st (U' := T1.setTop (mkF m 48 #[.val (.ref a1), .val (.int (3 : Int32)), .val (.int (3 : Int32)), .val (.long (9 : Int64)), .second] [])) (fun t k => XS.ifYes X1.here hx rfl (pc0 := 31) (pc' := 48) rfl (hb hby d2_31) rfl ((if0 _ _).trans (flt (fun q => (by decide : ¬ ((2147483639 : Int64) < (9 : Int64))) ((lw_gt _ _).mp q))).2.2.2) (by decide) (by decide) k) ?_
  refine Goes.st (U' := T1.setTop (mkF m 49 #[.val (.ref a1), .val (.int (3 : Int32)), .val (.int (3 : Int32)), .val (.long (9 : Int64)), .second] [(.ref a1)])) (fun t k => XS.aloadN X1.here hx rfl (hb hby d2_48) rfl rfl k) ?_
  refine Goes.st (U' := T1.setTop (mkF m 50 #[.val (.ref a1), .val (.int (3 : Int32)), .val (.int (3 : Int32)), .val (.long (9 : Int64)), .second] [(.int (3 : Int32)), (.ref a1)])) (fun t k => XS.iloadN X1.here hx rfl (hb hby d2_49) rfl k) ?_
  obtain ⟨T2, h2, X2, e2, W2, st2⟩ := putF X1 hx hZ hown (host := "") (Or.inl (hw _ (List.mem_of_getElem? (i := 13) rfl))) Via.refl e1 F_length_a1 E_a1 (Or.inr ⟨(hw _ (List.mem_of_getElem? (i := 14) rfl)), rfl, hnm⟩) (hw _ (List.mem_of_getElem? (i := 1) rfl)) (ty := .int) (by decide) rfl rfl (g := (mkF m 50 #[.val (.ref a1), .val (.int (3 : Int32)), .val (.int (3 : Int32)), .val (.long (9 : Int64)), .second] [(.int (3 : Int32)), (.ref a1)])) rfl rfl (hb hby d2_50)
  have Fw2 := F_length_a1.same W2
  have N2 := Fr.snoc X2 N0 g_a1
  have K_3 : Keep h0 h2 [a1] := (Keep.refl h0 [a1]).wr W2 (Or.inl (List.mem_of_getElem? (i := 0) rfl))
  refine Goes.st (U' := T2.setTop (mkF m 53 #[.val (.ref a1), .val (.int (3 : Int32)), .val (.int (3 : Int32)), .val (.long (9 : Int64)), .second] [])) (fun t k => st2 t k) ?_
  refine Goes.st (U' := T2.setTop (mkF m 54 #[.val (.ref a1), .val (.int (3 : Int32)), .val (.int (3 : Int32)), .val (.long (9 : Int64)), .second] [(.ref a1)])) (fun t k => XS.aloadN X2.here hx rfl (hb hby d2_53) rfl rfl k) ?_
  refine Goes.st (U' := T2.setTop (mkF m 55 #[.val (.ref a1), .val (.int (3 : Int32)), .val (.int (3 : Int32)), .val (.long (9 : Int64)), .second] [(.long (9 : Int64)), (.ref a1)])) (fun t k => XS.lloadN X2.here hx rfl (hb hby d2_54) rfl k) ?_
  refine Goes.st (U' := T2.setTop (mkF m 56 #[.val (.ref a1), .val (.int (3 : Int32)), .val (.int (3 : Int32)), .val (.long (9 : Int64)), .second] [(.int (9 : Int32)), (.ref a1)])) (fun t k => XS.l2i X2.here hx rfl (hb hby d2_55) rfl k) ?_
  obtain ⟨T4, h4, k4, X4, e4, E4, A4, Ea4, st4⟩ := newPE X2 hx hZ (hw _ (List.mem_of_getElem? (i := 15) rfl)) e2 (g := (mkF m 56 #[.val (.ref a1), .val (.int (3 : Int32)), .val (.int (3 : Int32)), .val (.long (9 : Int64)), .second] [(.int (9 : Int32)), (.ref a1)])) rfl (hb hby d2_56) rfl (by decide) (cap := 9) (by decide) (by decide) (by decide) (by decide) (ad := "[B") rfl
  obtain ⟨b4, g4⟩ : ∃ z, z = h2.size := ⟨_, rfl⟩
  rw [← g4] at A4 Ea4 st4
  have ne_a1_b4 : a1 ≠ b4 := Nat.ne_of_lt (Nat.lt_of_lt_of_le (E_a1.wr W2).lt (Nat.le_of_eq g4.symm))
  have g_b4 : n0 ≤ b4 := Nat.le_trans (Nat.le_trans Z0 (Nat.le_of_eq W2.size.symm)) (Nat.le_of_eq g4.symm)
  have sz_b4 : h0.size ≤ b4 := Nat.le_trans K_3.1 (Nat.le_of_eq g4.symm)
  have K_5 : Keep h0 h4 [a1] := K_3.ext E4
  have V_b4 : Arv Z h4 b4 k4 .byte (9 : Int32) [(.int (0 : Int32)), (.int (0 : Int32)), (.int (0 : Int32)), (.int (0 : Int32)), (.int (0 : Int32)), (.int (0 : Int32)), (.int (0 : Int32)), (.int (0 : Int32)), (.int (0 : Int32))] (.int (0 : Int32)) := (Arv.new A4 (by decide)).pad (pad_rep [] (.int (0 : Int32)) 9)
  refine Goes.st (U' := T4.setTop (mkF m 58 #[.val (.ref a1), .val (.int (3 : Int32)), .val (.int (3 : Int32)), .val (.long (9 : Int64)), .second] [(.ref b4), (.ref a1)])) (fun t k => st4 t k) ?_
  obtain ⟨T6, h6, X6, e6, W6, st6⟩ := putF X4 hx hZ hown (host := "") (Or.inl (hw _ (List.mem_of_getElem? (i := 16) rfl))) Via.refl e4 ((F_bytes_a1.other W2 (Or.inr (slot_ne (Or.inl (hw _ (List.mem_of_getElem? (i := 17) rfl))) (Or.inr (hw _ (List.mem_of_getElem? (i := 14) rfl))) (by decide) (t := (.array .byte)) (t' := .int) (by decide) (by decide)))).ext E4) ((E_a1.wr W2).ext E4) (Or.inl (hw _ (List.mem_of_getElem? (i := 17) rfl))) (hw _ (List.mem_of_getElem? (i := 1) rfl)) (ty := (.array .byte)) (by decide) rfl rfl (g := (mkF m 58 #[.val (.ref a1), .val (.int (3 : Int32)), .val (.int (3 : Int32)), .val (.long (9 : Int64)), .second] [(.ref b4), (.ref a1)])) rfl rfl (hb hby d2_58)
  have Fw6 := ((F_bytes_a1.other W2 (Or.inr (slot_ne (Or.inl (hw _ (List.mem_of_getElem? (i := 17) rfl))) (Or.inr (hw _ (List.mem_of_getElem? (i := 14) rfl))) (by decide) (t := (.array .byte)) (t' := .int) (by decide) (by decide)))).ext E4).same W6
  have N6 := Fr.snoc X6 N2 g_a1
  have K_7 : Keep h0 h6 [a1] := K_5.wr W6 (Or.inl (List.mem_of_getElem? (i := 0) rfl))
  refine Goes.st (U' := T6.setTop (mkF m 61 #[.val (.ref a1), .val (.int (3 : Int32)), .val (.int (3 : Int32)), .val (.long (9 : Int64)), .second] [])) (fun t k => st6 t k) ?_
  refine Goes.st (U' := T6.setTop (mkF m 62 #[.val (.ref a1), .val (.int (3 : Int32)), .val (.int (3 : Int32)), .val (.long (9 : Int64)), .second] [(.ref a1)])) (fun t k => XS.aloadN X6.here hx rfl (hb hby d2_61) rfl rfl k) ?_
  refine Goes.st (U' := T6.setTop (mkF m 63 #[.val (.ref a1), .val (.int (3 : Int32)), .val (.int (3 : Int32)), .val (.long (9 : Int64)), .second] [(.int (3 : Int32)), (.ref a1)])) (fun t k => XS.iloadN X6.here hx rfl (hb hby d2_62) rfl k) ?_
  obtain ⟨T8, h8, X8, e8, W8, st8⟩ := putF X6 hx hZ hown (host := "") (Or.inl (hw _ (List.mem_of_getElem? (i := 18) rfl))) Via.refl e6 (((F_width_a1.other W2 (Or.inr (slot_ne (Or.inl (hw _ (List.mem_of_getElem? (i := 19) rfl))) (Or.inr (hw _ (List.mem_of_getElem? (i := 14) rfl))) (by decide) (t := .int) (t' := .int) (by decide) (by decide)))).ext E4).other W6 (Or.inr (slot_ne (Or.inl (hw _ (List.mem_of_getElem? (i := 19) rfl))) (Or.inl (hw _ (List.mem_of_getElem? (i := 17) rfl))) (by decide) (t := .int) (t' := (.array .byte)) (by decide) (by decide)))) (((E_a1.wr W2).ext E4).wr W6) (Or.inl (hw _ (List.mem_of_getElem? (i := 19) rfl))) (hw _ (List.mem_of_getElem? (i := 1) rfl)) (ty := .int) (by decide) rfl rfl (g := (mkF m 63 #[.val (.ref a1), .val (.int (3 : Int32)), .val (.int (3 : Int32)), .val (.long (9 : Int64)), .second] [(.int (3 : Int32)), (.ref a1)])) rfl rfl (hb hby d2_63)
  have Fw8 := (((F_width_a1.other W2 (Or.inr (slot_ne (Or.inl (hw _ (List.mem_of_getElem? (i := 19) rfl))) (Or.inr (hw _ (List.mem_of_getElem? (i := 14) rfl))) (by decide) (t := .int) (t' := .int) (by decide) (by decide)))).ext E4).other W6 (Or.inr (slot_ne (Or.inl (hw _ (List.mem_of_getElem? (i := 19) rfl))) (Or.inl (hw _ (List.mem_of_getElem? (i := 17) rfl))) (by decide) (t := .int) (t' := (.array .byte)) (by decide) (by decide)))).same W8
  have N8 := Fr.snoc X8 N6 g_a1
  have K_9 : Keep h0 h8 [a1] := K_7.wr W8 (Or.inl (List.mem_of_getElem? (i := 0) rfl))
  refine Goes.st (U' := T8.setTop (mkF m 66 #[.val (.ref a1), .val (.int (3 : Int32)), .val (.int (3 : Int32)), .val (.long (9 : Int64)), .second] [])) (fun t k => st8 t k) ?_
  refine Goes.retV X8 hx (BodyLoose.notSynchronized Bd) Bd.returns (hb hby d2_66) (by decide) (by decide) ?_
  show Q_rmC3 Z a1 (3 : Int32) (3 : Int32) h0 n0 _ T8.heap _
  rw [e8]
  exact ⟨rfl, N8, K_9, b4, k4, ⟨((((E_a1.wr W2).ext E4).wr W6).wr W8), (((Fw2.ext E4).other W6 (Or.inr (slot_ne (Or.inr (hw _ (List.mem_of_getElem? (i := 14) rfl))) (Or.inl (hw _ (List.mem_of_getElem? (i := 17) rfl))) (by decide) (t := .int) (t' := (.array .byte)) (by decide) (by decide)))).other W8 (Or.inr (slot_ne (Or.inr (hw _ (List.mem_of_getElem? (i := 14) rfl))) (Or.inl (hw _ (List.mem_of_getElem? (i := 19) rfl))) (by decide) (t := .int) (t' := .int) (by decide) (by decide)))), (Fw6.other W8 (Or.inr (slot_ne (Or.inl (hw _ (List.mem_of_getElem? (i := 17) rfl))) (Or.inl (hw _ (List.mem_of_getElem? (i := 19) rfl))) (by decide) (t := (.array .byte)) (t' := .int) (by decide) (by decide)))), Fw8, (by rw [own_z0, own_z1, own_z2]; exact ((V_b4.other W6 (Ne.symm ne_a1_b4)).other W8 (Ne.symm ne_a1_b4))), ne_a1_b4, own_fit0, own_fit0, own_fit0⟩, g_b4, sz_b4⟩
theorem ef_rmC4 (m : MethodId) (a1 : Addr) (p2 : Int32) (p3 : Int32) : entryFrame m #[(.ref a1), (.int p2), (.int p3)] 5 = mkF m 0 #[.val (.ref a1), .val (.int p2), .val (.int p3), .unset, .unset] [] := by first | (simp [entryFrame, mkF, argsToLocals, Value.category]; done) | rfl
def Q_rmC4 (Z : State) (a1 : Addr) (p2 : Int32) (p3 : Int32) (h0 : Heap) (n0 : Nat) (v : Option Value) (h : Heap) (L : List Loc) : Prop := v = none ∧ Fr n0 L ∧ Keep h0 h [a1] ∧ ∃ arr k, P4 Z h a1 arr k 0 0 0 ∧ n0 ≤ arr ∧ h0.size ≤ arr
set_option maxRecDepth 65536 in
set_option maxHeartbeats 40000000 in
theorem rmC4 (l : Launch) (Z : State) (a0 : Array Value) (hw : ∀ d ∈ tables_1, d.before a0 Z = true) (ws : List Jvm.Cond) (a1 : Addr) (p2 : Int32) (p3 : Int32) (h0 : Heap) (n0 : Nat) (Z0 : n0 ≤ h0.size) (E_a1 : Exa Z h0 a1 "com/example/chaise/chaise/core/PackedInts") (F_length_a1 : Fld Z h0 a1 "com/example/chaise/chaise/core/PackedInts" "length" "I" (.int (0 : Int32))) (F_bytes_a1 : Fld Z h0 a1 "com/example/chaise/chaise/core/PackedInts" "bytes" "[B" .null) (F_width_a1 : Fld Z h0 a1 "com/example/chaise/chaise/core/PackedInts" "width" "I" (.int (0 : Int32))) (g_a1 : n0 ≤ a1) (e2 : p2 = (3 : Int32)) (e3 : p3 = (4 : Int32)) :
    MetFree l (⟨"com/example/chaise/chaise/core/PackedInts", "<init>", "(II)V"⟩ : MethodName) (head1 (Jvm.Cond.code (⟨"com/example/chaise/chaise/core/PackedInts", "<init>", "(II)V"⟩ : MethodName) prog_81_method_2_code 5 none :: ws) ({ frames := 1, cells := 1, slots := 12, locals := 12 } : Room)) (fun a U => a = #[(.ref a1), (.int p2), (.int p3)] ∧ Z.Warmed39 U.vm ∧ U.heap = h0) (fun _ _ _ _ _ => True) (fun _ U o U' => ∃ v L, o = .returned v ∧ Q_rmC4 Z a1 (3 : Int32) (4 : Int32) h0 n0 v U'.heap L ∧ FrameEnd U o U' L ({ frames := 1, cells := 1, slots := 12, locals := 12 } : Room).cells ({ frames := 1, cells := 1, slots := 12, locals := 12 } : Room).slots) := by
  refine MetFree.of_bodySF (plainFor_of_name pn_0) hisR ?_
  intro p e s m args below meth c s₁ Bd hml0 hP hK
  obtain ⟨rfl, hZ, hh⟩ := hP
  have hx := Bd.exec
  have hby := Bd.bytes
  have hml : c.maxLocals = 5 := hml0
  have hown : s.vm.findClass "com/example/chaise/chaise/core/PackedInts" = some m.cls := findClass_of_methodNamed Bd.named
  have hnm := (name_of_methodNamed Bd.named Bd.method).1
  have X0 : Stand p l e ({ frames := 1, cells := 1, slots := 12, locals := 12 } : Room) s m #[(.ref a1), (.int p2), (.int p3)] below meth c s₁ [] 0 0 := Stand.of_body Bd
  have e0 : s₁.heap = h0 := by rw [← hh, Bd.state]; rfl
  have N0 := Fr.nil n0
  show Goes p e s below (fun v h L => Q_rmC4 Z a1 (3 : Int32) (4 : Int32) h0 n0 v h L) ({ frames := 1, cells := 1, slots := 12, locals := 12 } : Room).cells ({ frames := 1, cells := 1, slots := 12, locals := 12 } : Room).slots (s₁.setTop (entryFrame m #[(.ref a1), (.int p2), (.int p3)] 5))
  refine Goes.st (U' := s₁.setTop (mkF m 0 #[.val (.ref a1), .val (.int p2), .val (.int p3), .unset, .unset] [])) (fun t k => castTop (ef_rmC4 m a1 p2 p3) k) ?_
  subst e2
  subst e3
  refine Goes.st (U' := s₁.setTop (mkF m 1 #[.val (.ref a1), .val (.int (3 : Int32)), .val (.int (4 : Int32)), .unset, .unset] [(.ref a1)])) (fun t k => XS.aloadN X0.here hx rfl (hb hby d2_0) rfl rfl k) ?_
  obtain ⟨T1, X1, e1, st1⟩ := initO X0 hx hZ hown (hw _ (List.mem_of_getElem? (i := 9) rfl)) (hw _ (List.mem_of_getElem? (i := 10) rfl)) (hw _ (List.mem_of_getElem? (i := 11) rfl)) e0 (g := (mkF m 1 #[.val (.ref a1), .val (.int (3 : Int32)), .val (.int (4 : Int32)), .unset, .unset] [(.ref a1)])) rfl (by rw [hml]; rfl) rfl (hb hby d2_1) (by decide) (W := 0) (by show 2 * 0 + _ ≤ _; exact Nat.le_of_eq rfl) (by decide)
  refine Goes.st (U' := T1.setTop (mkF m 4 #[.val (.ref a1), .val (.int (3 : Int32)), .val (.int (4 : Int32)), .unset, .unset] [])) (fun t k => st1 t k) ?_
  refine Goes.st (U' := T1.setTop (mkF m 5 #[.val (.ref a1), .val (.int (3 : Int32)), .val (.int (4 : Int32)), .unset, .unset] [(.int (3 : Int32))])) (fun t k => XS.iloadN X1.here hx rfl (hb hby d2_4) rfl k) ?_
  refine Goes.st (U' := T1.setTop (mkF m 6 #[.val (.ref a1), .val (.int (3 : Int32)), .val (.int (4 : Int32)), .unset, .unset] [(.long (3 : Int64))])) (fun t k => XS.i2l X1.here hx rfl (hb hby d2_5) rfl k) ?_
  refine Goes.st (U' := T1.setTop (mkF m 7 #[.val (.ref a1), .val (.int (3 : Int32)), .val (.int (4 : Int32)), .unset, .unset] [(.int (4 : Int32)), (.long (3 : Int64))])) (fun t k => XS.iloadN X1.here hx rfl (hb hby d2_6) rfl k) ?_
  refine Goes.st (U' := T1.setTop (mkF m 8 #[.val (.ref a1), .val (.int (3 : Int32)), .val (.int (4 : Int32)), .unset, .unset] [(.long (4 : Int64)), (.long (3 : Int64))])) (fun t k => XS.i2l X1.here hx rfl (hb hby d2_7) rfl k) ?_
  refine Goes.st (U' := T1.setTop (mkF m 9 #[.val (.ref a1), .val (.int (3 : Int32)), .val (.int (4 : Int32)), .unset, .unset] [(.long (12 : Int64))])) (fun t k => XS.lmul X1.here hx rfl (hb hby d2_8) rfl k) ?_
  refine Goes.st (U' := T1.setTop (mkF m 10 #[.val (.ref a1), .val (.int (3 : Int32)), .val (.int (4 : Int32)), .val (.long (12 : Int64)), .second] [])) (fun t k => XS.lstoreN X1.here hx rfl (hb hby d2_9) rfl (l' := #[.val (.ref a1), .val (.int (3 : Int32)), .val (.int (4 : Int32)), .val (.long (12 : Int64)), .second]) rfl k) ?_
  refine Goes.st (U' := T1.setTop (mkF m 11 #[.val (.ref a1), .val (.int (3 : Int32)), .val (.int (4 : Int32)), .val (.long (12 : Int64)), .second] [(.int (3 : Int32))])) (fun t k => XS.iloadN X1.here hx rfl (hb hby d2_10) rfl k) ?_
  refine Goes.st (U' := T1.setTop (mkF m 26 #[.val (.ref a1), .val (.int (3 : Int32)), .val (.int (4 : Int32)), .val (.long (12 : Int64)), .second] [])) (fun t k => XS.ifYes X1.here hx rfl (pc0 := 11) (pc' := 26) rfl (hb hby d2_11) rfl ((if0 _ _).trans (flt (by decide : ¬ ((3 : Int32) < (0 : Int32)))).2.1) (by decide) (by decide) k) ?_
  refine Goes.st (U' := T1.setTop (mkF m 27 #[.val (.ref a1), .val (.int (3 : Int32)), .val (.int (4 : Int32)), .val (.long (12 : Int64)), .second] [(.long (12 : Int64))])) (fun t k => XS.lloadN X1.here hx rfl (hb hby d2_26) rfl k) ?_
  refine Goes.st (U' := T1.setTop (mkF m 30 #[.val (.ref a1), .val (.int (3 : Int32)), .val (.int (4 : Int32)), .val (.long (12 : Int64)), .second] [(.long (2147483639 : Int64)), (.long (12 : Int64))])) (fun t k => X1.ldc2Long hx hown (mvT hZ (hw _ (List.mem_of_getElem? (i := 12) rfl))) (g := (mkF m 27 #[.val (.ref a1), .val (.int (3 : Int32)), .val (.int (4 : Int32)), .val (.long (12 : Int64)), .second] [(.long (12 : Int64))])) rfl (hb hby d2_27) t k) ?_
  refine Goes.st (U' := T1.setTop (mkF m 31 #[.val (.ref a1), .val (.int (3 : Int32)), .val (.int (4 : Int32)), .val (.long (12 : Int64)), .second] [(.int (lcmpW (12 : Int64) (2147483639 : Int64)))])) (fun t k => XS.lcmp X1.here hx rfl (hb hby d2_30) rfl k) ?_
  refine Goes.st (U' := T1.setTop (mkF m 48 #[.val (.ref a1), .val (.int (3 : Int32)), .val (.int (4 : Int32)), .val (.long (12 : Int64)), .second] [])) (fun t k => XS.ifYes X1.here hx rfl (pc0 := 31) (pc' := 48) rfl (hb hby d2_31) rfl ((if0 _ _).trans (flt (fun q => (by decide : ¬ ((2147483639 : Int64) < (12 : Int64))) ((lw_gt _ _).mp q))).2.2.2) (by decide) (by decide) k) ?_
  refine Goes.st (U' := T1.setTop (mkF m 49 #[.val (.ref a1), .val (.int (3 : Int32)), .val (.int (4 : Int32)), .val (.long (12 : Int64)), .second] [(.ref a1)])) (fun t k => XS.aloadN X1.here hx rfl (hb hby d2_48) rfl rfl k) ?_
  refine Goes.st (U' := T1.setTop (mkF m 50 #[.val (.ref a1), .val (.int (3 : Int32)), .val (.int (4 : Int32)), .val (.long (12 : Int64)), .second] [(.int (3 : Int32)), (.ref a1)])) (fun t k => XS.iloadN X1.here hx rfl (hb hby d2_49) rfl k) ?_
  obtain ⟨T2, h2, X2, e2, W2, st2⟩ := putF X1 hx hZ hown (host := "") (Or.inl (hw _ (List.mem_of_getElem? (i := 13) rfl))) Via.refl e1 F_length_a1 E_a1 (Or.inr ⟨(hw _ (List.mem_of_getElem? (i := 14) rfl)), rfl, hnm⟩) (hw _ (List.mem_of_getElem? (i := 1) rfl)) (ty := .int) (by decide) rfl rfl (g := (mkF m 50 #[.val (.ref a1), .val (.int (3 : Int32)), .val (.int (4 : Int32)), .val (.long (12 : Int64)), .second] [(.int (3 : Int32)), (.ref a1)])) rfl rfl (hb hby d2_50)
  have Fw2 := F_length_a1.same W2
  have N2 := Fr.snoc X2 N0 g_a1
  have K_3 : Keep h0 h2 [a1] := (Keep.refl h0 [a1]).wr W2 (Or.inl (List.mem_of_getElem? (i := 0) rfl))
  refine Goes.st (U' := T2.setTop (mkF m 53 #[.val (.ref a1), .val (.int (3 : Int32)), .val (.int (4 : Int32)), .val (.long (12 : Int64)), .second] [])) (fun t k => st2 t k) ?_
  refine Goes.st (U' := T2.setTop (mkF m 54 #[.val (.ref a1), .val (.int (3 : Int32)), .val (.int (4 : Int32)), .val (.long (12 : Int64)), .second] [(.ref a1)])) (fun t k => XS.aloadN X2.here hx rfl (hb hby d2_53) rfl rfl k) ?_
  refine Goes.st (U' := T2.setTop (mkF m 55 #[.val (.ref a1), .val (.int (3 : Int32)), .val (.int (4 : Int32)), .val (.long (12 : Int64)), .second] [(.long (12 : Int64)), (.ref a1)])) (fun t k => XS.lloadN X2.here hx rfl (hb hby d2_54) rfl k) ?_
  refine Goes.st (U' := T2.setTop (mkF m 56 #[.val (.ref a1), .val (.int (3 : Int32)), .val (.int (4 : Int32)), .val (.long (12 : Int64)), .second] [(.int (12 : Int32)), (.ref a1)])) (fun t k => XS.l2i X2.here hx rfl (hb hby d2_55) rfl k) ?_
  obtain ⟨T4, h4, k4, X4, e4, E4, A4, Ea4, st4⟩ := newPE X2 hx hZ (hw _ (List.mem_of_getElem? (i := 15) rfl)) e2 (g := (mkF m 56 #[.val (.ref a1), .val (.int (3 : Int32)), .val (.int (4 : Int32)), .val (.long (12 : Int64)), .second] [(.int (12 : Int32)), (.ref a1)])) rfl (hb hby d2_56) rfl (by decide) (cap := 12) (by decide) (by decide) (by decide) (by decide) (ad := "[B") rfl
  obtain ⟨b4, g4⟩ : ∃ z, z = h2.size := ⟨_, rfl⟩
  rw [← g4] at A4 Ea4 st4
  have ne_a1_b4 : a1 ≠ b4 := Nat.ne_of_lt (Nat.lt_of_lt_of_le (E_a1.wr W2).lt (Nat.le_of_eq g4.symm))
  have g_b4 : n0 ≤ b4 := Nat.le_trans (Nat.le_trans Z0 (Nat.le_of_eq W2.size.symm)) (Nat.le_of_eq g4.symm)
  have sz_b4 : h0.size ≤ b4 := Nat.le_trans K_3.1 (Nat.le_of_eq g4.symm)
  have K_5 : Keep h0 h4 [a1] := K_3.ext E4
  have V_b4 : Arv Z h4 b4 k4 .byte (12 : Int32) [(.int (0 : Int32)), (.int (0 : Int32)), (.int (0 : Int32)), (.int (0 : Int32)), (.int (0 : Int32)), (.int (0 : Int32)), (.int (0 : Int32)), (.int (0 : Int32)), (.int (0 : Int32)), (.int (0 : Int32)), (.int (0 : Int32)), (.int (0 : Int32))] (.int (0 : Int32)) := (Arv.new A4 (by decide)).pad (pad_rep [] (.int (0 : Int32)) 12)
  refine Goes.st (U' := T4.setTop (mkF m 58 #[.val (.ref a1), .val (.int (3 : Int32)), .val (.int (4 : Int32)), .val (.long (12 : Int64)), .second] [(.ref b4), (.ref a1)])) (fun t k => st4 t k) ?_
  obtain ⟨T6, h6, X6, e6, W6, st6⟩ := putF X4 hx hZ hown (host := "") (Or.inl (hw _ (List.mem_of_getElem? (i := 16) rfl))) Via.refl e4 ((F_bytes_a1.other W2 (Or.inr (slot_ne (Or.inl (hw _ (List.mem_of_getElem? (i := 17) rfl))) (Or.inr (hw _ (List.mem_of_getElem? (i := 14) rfl))) (by decide) (t := (.array .byte)) (t' := .int) (by decide) (by decide)))).ext E4) ((E_a1.wr W2).ext E4) (Or.inl (hw _ (List.mem_of_getElem? (i := 17) rfl))) (hw _ (List.mem_of_getElem? (i := 1) rfl)) (ty := (.array .byte)) (by decide) rfl rfl (g := (mkF m 58 #[.val (.ref a1), .val (.int (3 : Int32)), .val (.int (4 : Int32)), .val (.long (12 : Int64)), .second] [(.ref b4), (.ref a1)])) rfl rfl (hb hby d2_58)
  have Fw6 := ((F_bytes_a1.other W2 (Or.inr (slot_ne (Or.inl (hw _ (List.mem_of_getElem? (i := 17) rfl))) (Or.inr (hw _ (List.mem_of_getElem? (i := 14) rfl))) (by decide) (t := (.array .byte)) (t' := .int) (by decide) (by decide)))).ext E4).same W6
  have N6 := Fr.snoc X6 N2 g_a1
  have K_7 : Keep h0 h6 [a1] := K_5.wr W6 (Or.inl (List.mem_of_getElem? (i := 0) rfl))
  refine Goes.st (U' := T6.setTop (mkF m 61 #[.val (.ref a1), .val (.int (3 : Int32)), .val (.int (4 : Int32)), .val (.long (12 : Int64)), .second] [])) (fun t k => st6 t k) ?_
  refine Goes.st (U' := T6.setTop (mkF m 62 #[.val (.ref a1), .val (.int (3 : Int32)), .val (.int (4 : Int32)), .val (.long (12 : Int64)), .second] [(.ref a1)])) (fun t k => XS.aloadN X6.here hx rfl (hb hby d2_61) rfl rfl k) ?_
  refine Goes.st (U' := T6.setTop (mkF m 63 #[.val (.ref a1), .val (.int (3 : Int32)), .val (.int (4 : Int32)), .val (.long (12 : Int64)), .second] [(.int (4 : Int32)), (.ref a1)])) (fun t k => XS.iloadN X6.here hx rfl (hb hby d2_62) rfl k) ?_
  obtain ⟨T8, h8, X8, e8, W8, st8⟩ := putF X6 hx hZ hown (host := "") (Or.inl (hw _ (List.mem_of_getElem? (i := 18) rfl))) Via.refl e6 (((F_width_a1.other W2 (Or.inr (slot_ne (Or.inl (hw _ (List.mem_of_getElem? (i := 19) rfl))) (Or.inr (hw _ (List.mem_of_getElem? (i := 14) rfl))) (by decide) (t := .int) (t' := .int) (by decide) (by decide)))).ext E4).other W6 (Or.inr (slot_ne (Or.inl (hw _ (List.mem_of_getElem? (i := 19) rfl))) (Or.inl (hw _ (List.mem_of_getElem? (i := 17) rfl))) (by decide) (t := .int) (t' := (.array .byte)) (by decide) (by decide)))) (((E_a1.wr W2).ext E4).wr W6) (Or.inl (hw _ (List.mem_of_getElem? (i := 19) rfl))) (hw _ (List.mem_of_getElem? (i := 1) rfl)) (ty := .int) (by decide) rfl rfl (g := (mkF m 63 #[.val (.ref a1), .val (.int (3 : Int32)), .val (.int (4 : Int32)), .val (.long (12 : Int64)), .second] [(.int (4 : Int32)), (.ref a1)])) rfl rfl (hb hby d2_63)
  have Fw8 := (((F_width_a1.other W2 (Or.inr (slot_ne (Or.inl (hw _ (List.mem_of_getElem? (i := 19) rfl))) (Or.inr (hw _ (List.mem_of_getElem? (i := 14) rfl))) (by decide) (t := .int) (t' := .int) (by decide) (by decide)))).ext E4).other W6 (Or.inr (slot_ne (Or.inl (hw _ (List.mem_of_getElem? (i := 19) rfl))) (Or.inl (hw _ (List.mem_of_getElem? (i := 17) rfl))) (by decide) (t := .int) (t' := (.array .byte)) (by decide) (by decide)))).same W8
  have N8 := Fr.snoc X8 N6 g_a1
  have K_9 : Keep h0 h8 [a1] := K_7.wr W8 (Or.inl (List.mem_of_getElem? (i := 0) rfl))
  refine Goes.st (U' := T8.setTop (mkF m 66 #[.val (.ref a1), .val (.int (3 : Int32)), .val (.int (4 : Int32)), .val (.long (12 : Int64)), .second] [])) (fun t k => st8 t k) ?_
  refine Goes.retV X8 hx (BodyLoose.notSynchronized Bd) Bd.returns (hb hby d2_66) (by decide) (by decide) ?_
  show Q_rmC4 Z a1 (3 : Int32) (4 : Int32) h0 n0 _ T8.heap _
  rw [e8]
  exact ⟨rfl, N8, K_9, b4, k4, ⟨((((E_a1.wr W2).ext E4).wr W6).wr W8), (((Fw2.ext E4).other W6 (Or.inr (slot_ne (Or.inr (hw _ (List.mem_of_getElem? (i := 14) rfl))) (Or.inl (hw _ (List.mem_of_getElem? (i := 17) rfl))) (by decide) (t := .int) (t' := (.array .byte)) (by decide) (by decide)))).other W8 (Or.inr (slot_ne (Or.inr (hw _ (List.mem_of_getElem? (i := 14) rfl))) (Or.inl (hw _ (List.mem_of_getElem? (i := 19) rfl))) (by decide) (t := .int) (t' := .int) (by decide) (by decide)))), (Fw6.other W8 (Or.inr (slot_ne (Or.inl (hw _ (List.mem_of_getElem? (i := 17) rfl))) (Or.inl (hw _ (List.mem_of_getElem? (i := 19) rfl))) (by decide) (t := (.array .byte)) (t' := .int) (by decide) (by decide)))), Fw8, (by rw [own_z0, own_z1, own_z2, own_z3]; exact ((V_b4.other W6 (Ne.symm ne_a1_b4)).other W8 (Ne.symm ne_a1_b4))), ne_a1_b4⟩, g_b4, sz_b4⟩
theorem d1_0 : decode prog_81_method_1_code 0 = .ok (.aload_n 0, 1) := by decide +kernel
theorem d1_1 : decode prog_81_method_1_code 1 = .ok (.iload_n 1, 1) := by decide +kernel
theorem d1_2 : decode prog_81_method_1_code 2 = .ok (.iconst 3, 1) := by decide +kernel
theorem d1_3 : decode prog_81_method_1_code 3 = .ok (.invokespecial 5, 3) := by decide +kernel
theorem d1_6 : decode prog_81_method_1_code 6 = .ok (.return_, 1) := by decide +kernel
theorem pd_0 : parseMethodDescriptor "(II)V" = some ⟨[.int, .int], none⟩ := by decide +kernel
theorem ef_rm1 (m : MethodId) (a1 : Addr) (p2 : Int32) : entryFrame m #[(.ref a1), (.int p2)] 2 = mkF m 0 #[.val (.ref a1), .val (.int p2)] [] := by first | (simp [entryFrame, mkF, argsToLocals, Value.category]; done) | rfl
def Q1 (Z : State) (a1 : Addr) (p2 : Int32) (h0 : Heap) (n0 : Nat) (v : Option Value) (h : Heap) (L : List Loc) : Prop := v = none ∧ Fr n0 L ∧ Keep h0 h [a1] ∧ ∃ arr k, P3 Z h a1 arr k 0 0 0 ∧ n0 ≤ arr
set_option maxRecDepth 65536 in
set_option maxHeartbeats 40000000 in
theorem rm1 (l : Launch) (Z : State) (a0 : Array Value) (hw : ∀ d ∈ tables_1, d.before a0 Z = true) (ws : List Jvm.Cond) (a1 : Addr) (p2 : Int32) (h0 : Heap) (n0 : Nat) (Z0 : n0 ≤ h0.size) (E_a1 : Exa Z h0 a1 "com/example/chaise/chaise/core/PackedInts") (F_length_a1 : Fld Z h0 a1 "com/example/chaise/chaise/core/PackedInts" "length" "I" (.int (0 : Int32))) (F_bytes_a1 : Fld Z h0 a1 "com/example/chaise/chaise/core/PackedInts" "bytes" "[B" .null) (F_width_a1 : Fld Z h0 a1 "com/example/chaise/chaise/core/PackedInts" "width" "I" (.int (0 : Int32))) (g_a1 : n0 ≤ a1) (e2 : p2 = (3 : Int32)) :
    MetFree l (⟨"com/example/chaise/chaise/core/PackedInts", "<init>", "(I)V"⟩ : MethodName) (head1 (Jvm.Cond.code (⟨"com/example/chaise/chaise/core/PackedInts", "<init>", "(I)V"⟩ : MethodName) prog_81_method_1_code 2 none :: ws) ({ frames := 2, cells := 1, slots := 9, locals := 28 } : Room)) (fun a U => a = #[(.ref a1), (.int p2)] ∧ Z.Warmed39 U.vm ∧ U.heap = h0) (fun _ _ _ _ _ => True) (fun _ U o U' => ∃ v L, o = .returned v ∧ Q1 Z a1 (3 : Int32) h0 n0 v U'.heap L ∧ FrameEnd U o U' L ({ frames := 2, cells := 1, slots := 9, locals := 28 } : Room).cells ({ frames := 2, cells := 1, slots := 9, locals := 28 } : Room).slots) := by
  refine MetFree.of_bodySF (plainFor_of_name pn_0) hisR ?_
  intro p e s m args below meth c s₁ Bd hml0 hP hK
  obtain ⟨rfl, hZ, hh⟩ := hP
  have hx := Bd.exec
  have hby := Bd.bytes
  have hml : c.maxLocals = 2 := hml0
  have hown : s.vm.findClass "com/example/chaise/chaise/core/PackedInts" = some m.cls := findClass_of_methodNamed Bd.named
  have hnm := (name_of_methodNamed Bd.named Bd.method).1
  have X0 : Stand p l e ({ frames := 2, cells := 1, slots := 9, locals := 28 } : Room) s m #[(.ref a1), (.int p2)] below meth c s₁ [] 0 0 := Stand.of_body Bd
  have e0 : s₁.heap = h0 := by rw [← hh, Bd.state]; rfl
  have N0 := Fr.nil n0
  show Goes p e s below (fun v h L => Q1 Z a1 (3 : Int32) h0 n0 v h L) ({ frames := 2, cells := 1, slots := 9, locals := 28 } : Room).cells ({ frames := 2, cells := 1, slots := 9, locals := 28 } : Room).slots (s₁.setTop (entryFrame m #[(.ref a1), (.int p2)] 2))
  refine Goes.st (U' := s₁.setTop (mkF m 0 #[.val (.ref a1), .val (.int p2)] [])) (fun t k => castTop (ef_rm1 m a1 p2) k) ?_
  subst e2
  refine Goes.st (U' := s₁.setTop (mkF m 1 #[.val (.ref a1), .val (.int (3 : Int32))] [(.ref a1)])) (fun t k => XS.aloadN X0.here hx rfl (hb hby d1_0) rfl rfl k) ?_
  refine Goes.st (U' := s₁.setTop (mkF m 2 #[.val (.ref a1), .val (.int (3 : Int32))] [(.int (3 : Int32)), (.ref a1)])) (fun t k => XS.iloadN X0.here hx rfl (hb hby d1_1) rfl k) ?_
  refine Goes.st (U' := s₁.setTop (mkF m 3 #[.val (.ref a1), .val (.int (3 : Int32))] [(.int (3 : Int32)), (.int (3 : Int32)), (.ref a1)])) (fun t k => XS.iconst X0.here hx rfl (hb hby d1_2) k) ?_
  obtain ⟨_, _, ⟨T1, L1, k1, n1⟩, -, X1, ⟨Lc1, hQ1, l1, y1, z1⟩, st1⟩ := X0.specialBack hx (y := (⟨"com/example/chaise/chaise/core/PackedInts", "<init>", "(II)V"⟩ : MethodName)) rfl hown (mvT hZ (hw _ (List.mem_of_getElem? (i := 6) rfl))) (mvT hZ (hw _ (List.mem_of_getElem? (i := 7) rfl))) (mvT hZ (hw _ (List.mem_of_getElem? (i := 8) rfl))) (by decide) (backOf (W := 0) (rmC3 l Z a0 hw [] a1 (3 : Int32) (3 : Int32) h0 n0 Z0 (E_a1) (F_length_a1) (F_bytes_a1) (F_width_a1) (g_a1) (rfl) (rfl)) hZ (hw _ (List.mem_of_getElem? (i := 8) rfl)) (hw _ (List.mem_of_getElem? (i := 2) rfl)) (by decide) (by decide)) (g := (mkF m 3 #[.val (.ref a1), .val (.int (3 : Int32))] [(.int (3 : Int32)), (.int (3 : Int32)), (.ref a1)])) rfl (by rw [hml]; rfl) (Steps.refl _) (a := a1) (argsL := [(.int (3 : Int32)), (.int (3 : Int32))]) (rest := []) (lenOf pd_0 rfl) rfl (by show 2 * 0 + _ ≤ _; exact Nat.le_of_eq rfl) (hb hby d1_3) (fun _ _ => ⟨rfl, e0, (by decide : 0 + 1 ≤ _), (by decide : 0 + 9 ≤ _)⟩)
  dsimp only [Pt.U, Pt.locs, Pt.cells, Pt.slots] at X1 l1 y1 z1 st1 hQ1
  subst l1 y1 z1
  obtain ⟨rfl, N1q, K1, ar1, ka1, I1, g_ar1, u1⟩ := hQ1
  have N1 := Fr.app N0 N1q
  have ne_a1_ar1 : a1 ≠ ar1 := Nat.ne_of_lt (Nat.lt_of_lt_of_le E_a1.lt u1)
  have K_2 : Keep h0 T1.heap [a1] := (Keep.refl h0 [a1]).trans K1 (allS (Or.inl (List.mem_of_getElem? (i := 0) rfl)) all0)
  have sz_ar1 : h0.size ≤ ar1 := Nat.le_trans (Keep.refl h0 [a1]).1 u1
  refine Goes.tr (U' := T1.setTop (mkF m 6 #[.val (.ref a1), .val (.int (3 : Int32))] [])) st1 ?_
  refine Goes.retV X1 hx (BodyLoose.notSynchronized Bd) Bd.returns (hb hby d1_6) (by decide) (by decide) ?_
  show Q1 Z a1 (3 : Int32) h0 n0 _ T1.heap _
  exact ⟨rfl, N1, K_2, ar1, ka1, I1, g_ar1⟩
theorem d4_0 : decode prog_81_method_5_code 0 = .ok (.iload_n 1, 1) := by decide +kernel
theorem d4_1 : decode prog_81_method_5_code 1 = .ok (.aload_n 0, 1) := by decide +kernel
theorem d4_2 : decode prog_81_method_5_code 2 = .ok (.getfield 39, 3) := by decide +kernel
theorem d4_5 : decode prog_81_method_5_code 5 = .ok (.imul, 1) := by decide +kernel
theorem d4_6 : decode prog_81_method_5_code 6 = .ok (.istore_n 2, 1) := by decide +kernel
theorem d4_7 : decode prog_81_method_5_code 7 = .ok (.aload_n 0, 1) := by decide +kernel
theorem d4_8 : decode prog_81_method_5_code 8 = .ok (.getfield 35, 3) := by decide +kernel
theorem d4_11 : decode prog_81_method_5_code 11 = .ok (.iload_n 2, 1) := by decide +kernel
theorem d4_12 : decode prog_81_method_5_code 12 = .ok (.baload, 1) := by decide +kernel
theorem d4_13 : decode prog_81_method_5_code 13 = .ok (.sipush 255, 3) := by decide +kernel
theorem d4_16 : decode prog_81_method_5_code 16 = .ok (.iand, 1) := by decide +kernel
theorem d4_17 : decode prog_81_method_5_code 17 = .ok (.aload_n 0, 1) := by decide +kernel
theorem d4_18 : decode prog_81_method_5_code 18 = .ok (.getfield 35, 3) := by decide +kernel
theorem d4_21 : decode prog_81_method_5_code 21 = .ok (.iload_n 2, 1) := by decide +kernel
theorem d4_22 : decode prog_81_method_5_code 22 = .ok (.iconst 1, 1) := by decide +kernel
theorem d4_23 : decode prog_81_method_5_code 23 = .ok (.iadd, 1) := by decide +kernel
theorem d4_24 : decode prog_81_method_5_code 24 = .ok (.baload, 1) := by decide +kernel
theorem d4_25 : decode prog_81_method_5_code 25 = .ok (.sipush 255, 3) := by decide +kernel
theorem d4_28 : decode prog_81_method_5_code 28 = .ok (.iand, 1) := by decide +kernel
theorem d4_29 : decode prog_81_method_5_code 29 = .ok (.bipush 8, 2) := by decide +kernel
theorem d4_31 : decode prog_81_method_5_code 31 = .ok (.ishl, 1) := by decide +kernel
theorem d4_32 : decode prog_81_method_5_code 32 = .ok (.ior, 1) := by decide +kernel
theorem d4_33 : decode prog_81_method_5_code 33 = .ok (.istore_n 3, 1) := by decide +kernel
theorem d4_34 : decode prog_81_method_5_code 34 = .ok (.aload_n 0, 1) := by decide +kernel
theorem d4_35 : decode prog_81_method_5_code 35 = .ok (.getfield 39, 3) := by decide +kernel
theorem d4_38 : decode prog_81_method_5_code 38 = .ok (.iconst 3, 1) := by decide +kernel
theorem d4_39 : decode prog_81_method_5_code 39 = .ok (.if_icmp .ne 19, 3) := by decide +kernel
theorem d4_42 : decode prog_81_method_5_code 42 = .ok (.iload_n 3, 1) := by decide +kernel
theorem d4_43 : decode prog_81_method_5_code 43 = .ok (.aload_n 0, 1) := by decide +kernel
theorem d4_44 : decode prog_81_method_5_code 44 = .ok (.getfield 35, 3) := by decide +kernel
theorem d4_47 : decode prog_81_method_5_code 47 = .ok (.iload_n 2, 1) := by decide +kernel
theorem d4_48 : decode prog_81_method_5_code 48 = .ok (.iconst 2, 1) := by decide +kernel
theorem d4_49 : decode prog_81_method_5_code 49 = .ok (.iadd, 1) := by decide +kernel
theorem d4_50 : decode prog_81_method_5_code 50 = .ok (.baload, 1) := by decide +kernel
theorem d4_51 : decode prog_81_method_5_code 51 = .ok (.bipush 16, 2) := by decide +kernel
theorem d4_53 : decode prog_81_method_5_code 53 = .ok (.ishl, 1) := by decide +kernel
theorem d4_54 : decode prog_81_method_5_code 54 = .ok (.ior, 1) := by decide +kernel
theorem d4_55 : decode prog_81_method_5_code 55 = .ok (.goto 32, 3) := by decide +kernel
theorem d4_58 : decode prog_81_method_5_code 58 = .ok (.iload_n 3, 1) := by decide +kernel
theorem d4_59 : decode prog_81_method_5_code 59 = .ok (.aload_n 0, 1) := by decide +kernel
theorem d4_60 : decode prog_81_method_5_code 60 = .ok (.getfield 35, 3) := by decide +kernel
theorem d4_63 : decode prog_81_method_5_code 63 = .ok (.iload_n 2, 1) := by decide +kernel
theorem d4_64 : decode prog_81_method_5_code 64 = .ok (.iconst 2, 1) := by decide +kernel
theorem d4_65 : decode prog_81_method_5_code 65 = .ok (.iadd, 1) := by decide +kernel
theorem d4_66 : decode prog_81_method_5_code 66 = .ok (.baload, 1) := by decide +kernel
theorem d4_67 : decode prog_81_method_5_code 67 = .ok (.sipush 255, 3) := by decide +kernel
theorem d4_70 : decode prog_81_method_5_code 70 = .ok (.iand, 1) := by decide +kernel
theorem d4_71 : decode prog_81_method_5_code 71 = .ok (.bipush 16, 2) := by decide +kernel
theorem d4_73 : decode prog_81_method_5_code 73 = .ok (.ishl, 1) := by decide +kernel
theorem d4_74 : decode prog_81_method_5_code 74 = .ok (.ior, 1) := by decide +kernel
theorem d4_75 : decode prog_81_method_5_code 75 = .ok (.aload_n 0, 1) := by decide +kernel
theorem d4_76 : decode prog_81_method_5_code 76 = .ok (.getfield 35, 3) := by decide +kernel
theorem d4_79 : decode prog_81_method_5_code 79 = .ok (.iload_n 2, 1) := by decide +kernel
theorem d4_80 : decode prog_81_method_5_code 80 = .ok (.iconst 3, 1) := by decide +kernel
theorem d4_81 : decode prog_81_method_5_code 81 = .ok (.iadd, 1) := by decide +kernel
theorem d4_82 : decode prog_81_method_5_code 82 = .ok (.baload, 1) := by decide +kernel
theorem d4_83 : decode prog_81_method_5_code 83 = .ok (.bipush 24, 2) := by decide +kernel
theorem d4_85 : decode prog_81_method_5_code 85 = .ok (.ishl, 1) := by decide +kernel
theorem d4_86 : decode prog_81_method_5_code 86 = .ok (.ior, 1) := by decide +kernel
theorem d4_87 : decode prog_81_method_5_code 87 = .ok (.ireturn, 1) := by decide +kernel
theorem ef_rmG0 (m : MethodId) (a1 : Addr) (p2 : Int32) : entryFrame m #[(.ref a1), (.int p2)] 4 = mkF m 0 #[.val (.ref a1), .val (.int p2), .unset, .unset] [] := by first | (simp [entryFrame, mkF, argsToLocals, Value.category]; done) | rfl
def Q_rmG0 (Z : State) (a1 : Addr) (p2 : Int32) (x0 : Int32) (x1 : Int32) (x2 : Int32) (h0 : Heap) (n0 : Nat) (v : Option Value) (h : Heap) (L : List Loc) : Prop := v = some (.int x0) ∧ Fr n0 L ∧ h = h0
set_option maxRecDepth 65536 in
set_option maxHeartbeats 40000000 in
theorem rmG0 (l : Launch) (Z : State) (a0 : Array Value) (hw : ∀ d ∈ tables_1, d.before a0 Z = true) (ws : List Jvm.Cond) (a1 : Addr) (p2 : Int32) (x0 : Int32) (x1 : Int32) (x2 : Int32) (h0 : Heap) (n0 : Nat) (Z0 : n0 ≤ h0.size) (I : PI Z h0 a1 n0 x0 x1 x2) (e2 : p2 = (0 : Int32)) :
    MetFree l (⟨"com/example/chaise/chaise/core/PackedInts", "get", "(I)I"⟩ : MethodName) (head1 (Jvm.Cond.code (⟨"com/example/chaise/chaise/core/PackedInts", "get", "(I)I"⟩ : MethodName) prog_81_method_5_code 4 (some .int) :: ws) ({ frames := 0, cells := 0, slots := 0, locals := 0 } : Room)) (fun a U => a = #[(.ref a1), (.int p2)] ∧ Z.Warmed39 U.vm ∧ U.heap = h0) (fun _ _ _ _ _ => True) (fun _ U o U' => ∃ v L, o = .returned v ∧ Q_rmG0 Z a1 (0 : Int32) x0 x1 x2 h0 n0 v U'.heap L ∧ FrameEnd U o U' L ({ frames := 0, cells := 0, slots := 0, locals := 0 } : Room).cells ({ frames := 0, cells := 0, slots := 0, locals := 0 } : Room).slots) := by
  refine MetFree.of_bodySF (plainFor_of_name pn_0) hisR ?_
  intro p e s m args below meth c s₁ Bd hml0 hP hK
  obtain ⟨rfl, hZ, hh⟩ := hP
  have hx := Bd.exec
  have hby := Bd.bytes
  have hml : c.maxLocals = 4 := hml0
  have hown : s.vm.findClass "com/example/chaise/chaise/core/PackedInts" = some m.cls := findClass_of_methodNamed Bd.named
  have hnm := (name_of_methodNamed Bd.named Bd.method).1
  have X0 : Stand p l e ({ frames := 0, cells := 0, slots := 0, locals := 0 } : Room) s m #[(.ref a1), (.int p2)] below meth c s₁ [] 0 0 := Stand.of_body Bd
  have e0 : s₁.heap = h0 := by rw [← hh, Bd.state]; rfl
  have N0 := Fr.nil n0
  show Goes p e s below (fun v h L => Q_rmG0 Z a1 (0 : Int32) x0 x1 x2 h0 n0 v h L) ({ frames := 0, cells := 0, slots := 0, locals := 0 } : Room).cells ({ frames := 0, cells := 0, slots := 0, locals := 0 } : Room).slots (s₁.setTop (entryFrame m #[(.ref a1), (.int p2)] 4))
  refine Goes.st (U' := s₁.setTop (mkF m 0 #[.val (.ref a1), .val (.int p2), .unset, .unset] [])) (fun t k => castTop (ef_rmG0 m a1 p2) k) ?_
  subst e2
  rcases I with ⟨arr, k, P, g_arr⟩ | ⟨arr, k, P, g_arr⟩
  · skip
    obtain ⟨E_a1, F_length_a1, F_bytes_a1, F_width_a1, V_arr, ne_a1_arr, hf0_a1, hf1_a1, hf2_a1⟩ := P
    refine Goes.st (U' := s₁.setTop (mkF m 1 #[.val (.ref a1), .val (.int (0 : Int32)), .unset, .unset] [(.int (0 : Int32))])) (fun t k => XS.iloadN X0.here hx rfl (hb hby d4_0) rfl k) ?_
    refine Goes.st (U' := s₁.setTop (mkF m 2 #[.val (.ref a1), .val (.int (0 : Int32)), .unset, .unset] [(.ref a1), (.int (0 : Int32))])) (fun t k => XS.aloadN X0.here hx rfl (hb hby d4_1) rfl rfl k) ?_
    obtain ⟨T1, X1, e1, st1⟩ := getF X0 hx hZ hown (host := "") (Or.inl (hw _ (List.mem_of_getElem? (i := 18) rfl))) Via.refl e0 F_width_a1 (g := (mkF m 2 #[.val (.ref a1), .val (.int (0 : Int32)), .unset, .unset] [(.ref a1), (.int (0 : Int32))])) rfl rfl (hb hby d4_2)
    refine Goes.st (U' := T1.setTop (mkF m 5 #[.val (.ref a1), .val (.int (0 : Int32)), .unset, .unset] [(.int (3 : Int32)), (.int (0 : Int32))])) (fun t k => st1 t k) ?_
    refine Goes.st (U' := T1.setTop (mkF m 6 #[.val (.ref a1), .val (.int (0 : Int32)), .unset, .unset] [(.int (0 : Int32))])) (fun t k => XS.imul X1.here hx rfl (hb hby d4_5) rfl k) ?_
    refine Goes.st (U' := T1.setTop (mkF m 7 #[.val (.ref a1), .val (.int (0 : Int32)), .val (.int (0 : Int32)), .unset] [])) (fun t k => XS.istoreN X1.here hx rfl (hb hby d4_6) rfl (l' := #[.val (.ref a1), .val (.int (0 : Int32)), .val (.int (0 : Int32)), .unset]) rfl k) ?_
    refine Goes.st (U' := T1.setTop (mkF m 8 #[.val (.ref a1), .val (.int (0 : Int32)), .val (.int (0 : Int32)), .unset] [(.ref a1)])) (fun t k => XS.aloadN X1.here hx rfl (hb hby d4_7) rfl rfl k) ?_
    obtain ⟨T2, X2, e2, st2⟩ := getF X1 hx hZ hown (host := "") (Or.inl (hw _ (List.mem_of_getElem? (i := 16) rfl))) Via.refl e1 F_bytes_a1 (g := (mkF m 8 #[.val (.ref a1), .val (.int (0 : Int32)), .val (.int (0 : Int32)), .unset] [(.ref a1)])) rfl rfl (hb hby d4_8)
    refine Goes.st (U' := T2.setTop (mkF m 11 #[.val (.ref a1), .val (.int (0 : Int32)), .val (.int (0 : Int32)), .unset] [(.ref arr)])) (fun t k => st2 t k) ?_
    refine Goes.st (U' := T2.setTop (mkF m 12 #[.val (.ref a1), .val (.int (0 : Int32)), .val (.int (0 : Int32)), .unset] [(.int (0 : Int32)), (.ref arr)])) (fun t k => XS.iloadN X2.here hx rfl (hb hby d4_11) rfl k) ?_
    have Vx3 := V_arr
    obtain ⟨cl3, Ar3, qa3, S3, Nn3, H3, G3⟩ := Vx3
    have hin3 : ¬ ((0 : Int32) < 0 ∨ cl3.slots.size ≤ ((0 : Int32)).toNatClampNeg) := inb_of S3 ⟨by decide, by decide⟩
    have hat3 : cl3.slots[((0 : Int32)).toNatClampNeg]? = some (.int (own_b0 x0)) := H3.at hin3 rfl
    refine Goes.st (U' := T2.setTop (mkF m 13 #[.val (.ref a1), .val (.int (0 : Int32)), .val (.int (0 : Int32)), .unset] [(.int (own_b0 x0))])) (fun t k => X2.baloadBytes hx (j := (0 : Int32)) (v := (.int (own_b0 x0))) (by rw [e2]; exact Ar3.1) (State.isArrayOf_alike hZ.alike Ar3.2.1) Ar3.2.2 hin3 hat3 (g := (mkF m 12 #[.val (.ref a1), .val (.int (0 : Int32)), .val (.int (0 : Int32)), .unset] [(.int (0 : Int32)), (.ref arr)])) rfl rfl (hb hby d4_12) t k) ?_
    refine Goes.st (U' := T2.setTop (mkF m 16 #[.val (.ref a1), .val (.int (0 : Int32)), .val (.int (0 : Int32)), .unset] [(.int (255 : Int32)), (.int (own_b0 x0))])) (fun t k => XS.sipush X2.here hx rfl (hb hby d4_13) k) ?_
    refine Goes.st (U' := T2.setTop (mkF m 17 #[.val (.ref a1), .val (.int (0 : Int32)), .val (.int (0 : Int32)), .unset] [(.int ((own_b0 x0) &&& (255 : Int32)))])) (fun t k => XS.iand X2.here hx rfl (hb hby d4_16) rfl k) ?_
    refine Goes.st (U' := T2.setTop (mkF m 18 #[.val (.ref a1), .val (.int (0 : Int32)), .val (.int (0 : Int32)), .unset] [(.ref a1), (.int ((own_b0 x0) &&& (255 : Int32)))])) (fun t k => XS.aloadN X2.here hx rfl (hb hby d4_17) rfl rfl k) ?_
    obtain ⟨T4, X4, e4, st4⟩ := getF X2 hx hZ hown (host := "") (Or.inl (hw _ (List.mem_of_getElem? (i := 16) rfl))) Via.refl e2 F_bytes_a1 (g := (mkF m 18 #[.val (.ref a1), .val (.int (0 : Int32)), .val (.int (0 : Int32)), .unset] [(.ref a1), (.int ((own_b0 x0) &&& (255 : Int32)))])) rfl rfl (hb hby d4_18)
    refine Goes.st (U' := T4.setTop (mkF m 21 #[.val (.ref a1), .val (.int (0 : Int32)), .val (.int (0 : Int32)), .unset] [(.ref arr), (.int ((own_b0 x0) &&& (255 : Int32)))])) (fun t k => st4 t k) ?_
    refine Goes.st (U' := T4.setTop (mkF m 22 #[.val (.ref a1), .val (.int (0 : Int32)), .val (.int (0 : Int32)), .unset] [(.int (0 : Int32)), (.ref arr), (.int ((own_b0 x0) &&& (255 : Int32)))])) (fun t k => XS.iloadN X4.here hx rfl (hb hby d4_21) rfl k) ?_
    refine Goes.st (U' := T4.setTop (mkF m 23 #[.val (.ref a1), .val (.int (0 : Int32)), .val (.int (0 : Int32)), .unset] [(.int (1 : Int32)), (.int (0 : Int32)), (.ref arr), (.int ((own_b0 x0) &&& (255 : Int32)))])) (fun t k => XS.iconst X4.here hx rfl (hb hby d4_22) k) ?_
    refine Goes.st (U' := T4.setTop (mkF m 24 #[.val (.ref a1), .val (.int (0 : Int32)), .val (.int (0 : Int32)), .unset] [(.int (1 : Int32)), (.ref arr), (.int ((own_b0 x0) &&& (255 : Int32)))])) (fun t k => XS.iadd X4.here hx rfl (hb hby d4_23) rfl k) ?_
    have Vx5 := V_arr
    obtain ⟨cl5, Ar5, qa5, S5, Nn5, H5, G5⟩ := Vx5
    have hin5 : ¬ ((1 : Int32) < 0 ∨ cl5.slots.size ≤ ((1 : Int32)).toNatClampNeg) := inb_of S5 ⟨by decide, by decide⟩
    have hat5 : cl5.slots[((1 : Int32)).toNatClampNeg]? = some (.int (own_b1 x0)) := H5.at hin5 rfl
    refine Goes.st (U' := T4.setTop (mkF m 25 #[.val (.ref a1), .val (.int (0 : Int32)), .val (.int (0 : Int32)), .unset] [(.int (own_b1 x0)), (.int ((own_b0 x0) &&& (255 : Int32)))])) (fun t k => X4.baloadBytes hx (j := (1 : Int32)) (v := (.int (own_b1 x0))) (by rw [e4]; exact Ar5.1) (State.isArrayOf_alike hZ.alike Ar5.2.1) Ar5.2.2 hin5 hat5 (g := (mkF m 24 #[.val (.ref a1), .val (.int (0 : Int32)), .val (.int (0 : Int32)), .unset] [(.int (1 : Int32)), (.ref arr), (.int ((own_b0 x0) &&& (255 : Int32)))])) rfl rfl (hb hby d4_24) t k) ?_
    refine Goes.st (U' := T4.setTop (mkF m 28 #[.val (.ref a1), .val (.int (0 : Int32)), .val (.int (0 : Int32)), .unset] [(.int (255 : Int32)), (.int (own_b1 x0)), (.int ((own_b0 x0) &&& (255 : Int32)))])) (fun t k => XS.sipush X4.here hx rfl (hb hby d4_25) k) ?_
    refine Goes.st (U' := T4.setTop (mkF m 29 #[.val (.ref a1), .val (.int (0 : Int32)), .val (.int (0 : Int32)), .unset] [(.int ((own_b1 x0) &&& (255 : Int32))), (.int ((own_b0 x0) &&& (255 : Int32)))])) (fun t k => XS.iand X4.here hx rfl (hb hby d4_28) rfl k) ?_
    refine Goes.st (U' := T4.setTop (mkF m 31 #[.val (.ref a1), .val (.int (0 : Int32)), .val (.int (0 : Int32)), .unset] [(.int (8 : Int32)), (.int ((own_b1 x0) &&& (255 : Int32))), (.int ((own_b0 x0) &&& (255 : Int32)))])) (fun t k => XS.bipush X4.here hx rfl (hb hby d4_29) k) ?_
    refine Goes.st (U' := T4.setTop (mkF m 32 #[.val (.ref a1), .val (.int (0 : Int32)), .val (.int (0 : Int32)), .unset] [(.int (((own_b1 x0) &&& (255 : Int32)) <<< ((8 : Int32) &&& 31))), (.int ((own_b0 x0) &&& (255 : Int32)))])) (fun t k => XS.ishl X4.here hx rfl (hb hby d4_31) rfl k) ?_
    refine Goes.st (U' := T4.setTop (mkF m 33 #[.val (.ref a1), .val (.int (0 : Int32)), .val (.int (0 : Int32)), .unset] [(.int (((own_b0 x0) &&& (255 : Int32)) ||| (((own_b1 x0) &&& (255 : Int32)) <<< ((8 : Int32) &&& 31))))])) (fun t k => XS.ior X4.here hx rfl (hb hby d4_32) rfl k) ?_
    refine Goes.st (U' := T4.setTop (mkF m 34 #[.val (.ref a1), .val (.int (0 : Int32)), .val (.int (0 : Int32)), .val (.int (((own_b0 x0) &&& (255 : Int32)) ||| (((own_b1 x0) &&& (255 : Int32)) <<< ((8 : Int32) &&& 31))))] [])) (fun t k => XS.istoreN X4.here hx rfl (hb hby d4_33) rfl (l' := #[.val (.ref a1), .val (.int (0 : Int32)), .val (.int (0 : Int32)), .val (.int (((own_b0 x0) &&& (255 : Int32)) ||| (((own_b1 x0) &&& (255 : Int32)) <<< ((8 : Int32) &&& 31))))]) rfl k) ?_
    refine Goes.st (U' := T4.setTop (mkF m 35 #[.val (.ref a1), .val (.int (0 : Int32)), .val (.int (0 : Int32)), .val (.int (((own_b0 x0) &&& (255 : Int32)) ||| (((own_b1 x0) &&& (255 : Int32)) <<< ((8 : Int32) &&& 31))))] [(.ref a1)])) (fun t k => XS.aloadN X4.here hx rfl (hb hby d4_34) rfl rfl k) ?_
    obtain ⟨T6, X6, e6, st6⟩ := getF X4 hx hZ hown (host := "") (Or.inl (hw _ (List.mem_of_getElem? (i := 18) rfl))) Via.refl e4 F_width_a1 (g := (mkF m 35 #[.val (.ref a1), .val (.int (0 : Int32)), .val (.int (0 : Int32)), .val (.int (((own_b0 x0) &&& (255 : Int32)) ||| (((own_b1 x0) &&& (255 : Int32)) <<< ((8 : Int32) &&& 31))))] [(.ref a1)])) rfl rfl (hb hby d4_35)
    refine Goes.st (U' := T6.setTop (mkF m 38 #[.val (.ref a1), .val (.int (0 : Int32)), .val (.int (0 : Int32)), .val (.int (((own_b0 x0) &&& (255 : Int32)) ||| (((own_b1 x0) &&& (255 : Int32)) <<< ((8 : Int32) &&& 31))))] [(.int (3 : Int32))])) (fun t k => st6 t k) ?_
    refine Goes.st (U' := T6.setTop (mkF m 39 #[.val (.ref a1), .val (.int (0 : Int32)), .val (.int (0 : Int32)), .val (.int (((own_b0 x0) &&& (255 : Int32)) ||| (((own_b1 x0) &&& (255 : Int32)) <<< ((8 : Int32) &&& 31))))] [(.int (3 : Int32)), (.int (3 : Int32))])) (fun t k => XS.iconst X6.here hx rfl (hb hby d4_38) k) ?_
    refine Goes.st (U' := T6.setTop (mkF m 42 #[.val (.ref a1), .val (.int (0 : Int32)), .val (.int (0 : Int32)), .val (.int (((own_b0 x0) &&& (255 : Int32)) ||| (((own_b1 x0) &&& (255 : Int32)) <<< ((8 : Int32) &&& 31))))] [])) (fun t k => XS.icmpNo X6.here hx rfl (hb hby d4_39) rfl (teq (rfl : (3 : Int32) = (3 : Int32))).2 k) ?_
    refine Goes.st (U' := T6.setTop (mkF m 43 #[.val (.ref a1), .val (.int (0 : Int32)), .val (.int (0 : Int32)), .val (.int (((own_b0 x0) &&& (255 : Int32)) ||| (((own_b1 x0) &&& (255 : Int32)) <<< ((8 : Int32) &&& 31))))] [(.int (((own_b0 x0) &&& (255 : Int32)) ||| (((own_b1 x0) &&& (255 : Int32)) <<< ((8 : Int32) &&& 31))))])) (fun t k => XS.iloadN X6.here hx rfl (hb hby d4_42) rfl k) ?_
    refine Goes.st (U' := T6.setTop (mkF m 44 #[.val (.ref a1), .val (.int (0 : Int32)), .val (.int (0 : Int32)), .val (.int (((own_b0 x0) &&& (255 : Int32)) ||| (((own_b1 x0) &&& (255 : Int32)) <<< ((8 : Int32) &&& 31))))] [(.ref a1), (.int (((own_b0 x0) &&& (255 : Int32)) ||| (((own_b1 x0) &&& (255 : Int32)) <<< ((8 : Int32) &&& 31))))])) (fun t k => XS.aloadN X6.here hx rfl (hb hby d4_43) rfl rfl k) ?_
    obtain ⟨T7, X7, e7, st7⟩ := getF X6 hx hZ hown (host := "") (Or.inl (hw _ (List.mem_of_getElem? (i := 16) rfl))) Via.refl e6 F_bytes_a1 (g := (mkF m 44 #[.val (.ref a1), .val (.int (0 : Int32)), .val (.int (0 : Int32)), .val (.int (((own_b0 x0) &&& (255 : Int32)) ||| (((own_b1 x0) &&& (255 : Int32)) <<< ((8 : Int32) &&& 31))))] [(.ref a1), (.int (((own_b0 x0) &&& (255 : Int32)) ||| (((own_b1 x0) &&& (255 : Int32)) <<< ((8 : Int32) &&& 31))))])) rfl rfl (hb hby d4_44)
    refine Goes.st (U' := T7.setTop (mkF m 47 #[.val (.ref a1), .val (.int (0 : Int32)), .val (.int (0 : Int32)), .val (.int (((own_b0 x0) &&& (255 : Int32)) ||| (((own_b1 x0) &&& (255 : Int32)) <<< ((8 : Int32) &&& 31))))] [(.ref arr), (.int (((own_b0 x0) &&& (255 : Int32)) ||| (((own_b1 x0) &&& (255 : Int32)) <<< ((8 : Int32) &&& 31))))])) (fun t k => st7 t k) ?_
    refine Goes.st (U' := T7.setTop (mkF m 48 #[.val (.ref a1), .val (.int (0 : Int32)), .val (.int (0 : Int32)), .val (.int (((own_b0 x0) &&& (255 : Int32)) ||| (((own_b1 x0) &&& (255 : Int32)) <<< ((8 : Int32) &&& 31))))] [(.int (0 : Int32)), (.ref arr), (.int (((own_b0 x0) &&& (255 : Int32)) ||| (((own_b1 x0) &&& (255 : Int32)) <<< ((8 : Int32) &&& 31))))])) (fun t k => XS.iloadN X7.here hx rfl (hb hby d4_47) rfl k) ?_
    refine Goes.st (U' := T7.setTop (mkF m 49 #[.val (.ref a1), .val (.int (0 : Int32)), .val (.int (0 : Int32)), .val (.int (((own_b0 x0) &&& (255 : Int32)) ||| (((own_b1 x0) &&& (255 : Int32)) <<< ((8 : Int32) &&& 31))))] [(.int (2 : Int32)), (.int (0 : Int32)), (.ref arr), (.int (((own_b0 x0) &&& (255 : Int32)) ||| (((own_b1 x0) &&& (255 : Int32)) <<< ((8 : Int32) &&& 31))))])) (fun t k => XS.iconst X7.here hx rfl (hb hby d4_48) k) ?_
    refine Goes.st (U' := T7.setTop (mkF m 50 #[.val (.ref a1), .val (.int (0 : Int32)), .val (.int (0 : Int32)), .val (.int (((own_b0 x0) &&& (255 : Int32)) ||| (((own_b1 x0) &&& (255 : Int32)) <<< ((8 : Int32) &&& 31))))] [(.int (2 : Int32)), (.ref arr), (.int (((own_b0 x0) &&& (255 : Int32)) ||| (((own_b1 x0) &&& (255 : Int32)) <<< ((8 : Int32) &&& 31))))])) (fun t k => XS.iadd X7.here hx rfl (hb hby d4_49) rfl k) ?_
    have Vx8 := V_arr
    obtain ⟨cl8, Ar8, qa8, S8, Nn8, H8, G8⟩ := Vx8
    have hin8 : ¬ ((2 : Int32) < 0 ∨ cl8.slots.size ≤ ((2 : Int32)).toNatClampNeg) := inb_of S8 ⟨by decide, by decide⟩
    have hat8 : cl8.slots[((2 : Int32)).toNatClampNeg]? = some (.int (own_b2 x0)) := H8.at hin8 rfl
    refine Goes.st (U' := T7.setTop (mkF m 51 #[.val (.ref a1), .val (.int (0 : Int32)), .val (.int (0 : Int32)), .val (.int (((own_b0 x0) &&& (255 : Int32)) ||| (((own_b1 x0) &&& (255 : Int32)) <<< ((8 : Int32) &&& 31))))] [(.int (own_b2 x0)), (.int (((own_b0 x0) &&& (255 : Int32)) ||| (((own_b1 x0) &&& (255 : Int32)) <<< ((8 : Int32) &&& 31))))])) (fun t k => X7.baloadBytes hx (j := (2 : Int32)) (v := (.int (own_b2 x0))) (by rw [e7]; exact Ar8.1) (State.isArrayOf_alike hZ.alike Ar8.2.1) Ar8.2.2 hin8 hat8 (g := (mkF m 50 #[.val (.ref a1), .val (.int (0 : Int32)), .val (.int (0 : Int32)), .val (.int (((own_b0 x0) &&& (255 : Int32)) ||| (((own_b1 x0) &&& (255 : Int32)) <<< ((8 : Int32) &&& 31))))] [(.int (2 : Int32)), (.ref arr), (.int (((own_b0 x0) &&& (255 : Int32)) ||| (((own_b1 x0) &&& (255 : Int32)) <<< ((8 : Int32) &&& 31))))])) rfl rfl (hb hby d4_50) t k) ?_
    refine Goes.st (U' := T7.setTop (mkF m 53 #[.val (.ref a1), .val (.int (0 : Int32)), .val (.int (0 : Int32)), .val (.int (((own_b0 x0) &&& (255 : Int32)) ||| (((own_b1 x0) &&& (255 : Int32)) <<< ((8 : Int32) &&& 31))))] [(.int (16 : Int32)), (.int (own_b2 x0)), (.int (((own_b0 x0) &&& (255 : Int32)) ||| (((own_b1 x0) &&& (255 : Int32)) <<< ((8 : Int32) &&& 31))))])) (fun t k => XS.bipush X7.here hx rfl (hb hby d4_51) k) ?_
    refine Goes.st (U' := T7.setTop (mkF m 54 #[.val (.ref a1), .val (.int (0 : Int32)), .val (.int (0 : Int32)), .val (.int (((own_b0 x0) &&& (255 : Int32)) ||| (((own_b1 x0) &&& (255 : Int32)) <<< ((8 : Int32) &&& 31))))] [(.int ((own_b2 x0) <<< ((16 : Int32) &&& 31))), (.int (((own_b0 x0) &&& (255 : Int32)) ||| (((own_b1 x0) &&& (255 : Int32)) <<< ((8 : Int32) &&& 31))))])) (fun t k => XS.ishl X7.here hx rfl (hb hby d4_53) rfl k) ?_
    refine Goes.st (U' := T7.setTop (mkF m 55 #[.val (.ref a1), .val (.int (0 : Int32)), .val (.int (0 : Int32)), .val (.int (((own_b0 x0) &&& (255 : Int32)) ||| (((own_b1 x0) &&& (255 : Int32)) <<< ((8 : Int32) &&& 31))))] [(.int ((((own_b0 x0) &&& (255 : Int32)) ||| (((own_b1 x0) &&& (255 : Int32)) <<< ((8 : Int32) &&& 31))) ||| ((own_b2 x0) <<< ((16 : Int32) &&& 31))))])) (fun t k => XS.ior X7.here hx rfl (hb hby d4_54) rfl k) ?_
    refine Goes.st (U' := T7.setTop (mkF m 87 #[.val (.ref a1), .val (.int (0 : Int32)), .val (.int (0 : Int32)), .val (.int (((own_b0 x0) &&& (255 : Int32)) ||| (((own_b1 x0) &&& (255 : Int32)) <<< ((8 : Int32) &&& 31))))] [(.int ((((own_b0 x0) &&& (255 : Int32)) ||| (((own_b1 x0) &&& (255 : Int32)) <<< ((8 : Int32) &&& 31))) ||| ((own_b2 x0) <<< ((16 : Int32) &&& 31))))])) (fun t k => XS.goto X7.here hx rfl (pc0 := 55) (pc' := 87) rfl (hb hby d4_55) (by decide) (by decide) k) ?_
    refine Goes.retI X7 hx (BodyLoose.notSynchronized Bd) Bd.returns (hb hby d4_87) (by decide) (by decide) ?_
    show Q_rmG0 Z a1 (0 : Int32) x0 x1 x2 h0 n0 _ T7.heap _
    rw [e7]
    exact ⟨by rw [own_d3 _ hf0_a1], N0, rfl⟩
  · skip
    obtain ⟨E_a1, F_length_a1, F_bytes_a1, F_width_a1, V_arr, ne_a1_arr⟩ := P
    refine Goes.st (U' := s₁.setTop (mkF m 1 #[.val (.ref a1), .val (.int (0 : Int32)), .unset, .unset] [(.int (0 : Int32))])) (fun t k => XS.iloadN X0.here hx rfl (hb hby d4_0) rfl k) ?_
    refine Goes.st (U' := s₁.setTop (mkF m 2 #[.val (.ref a1), .val (.int (0 : Int32)), .unset, .unset] [(.ref a1), (.int (0 : Int32))])) (fun t k => XS.aloadN X0.here hx rfl (hb hby d4_1) rfl rfl k) ?_
    obtain ⟨T9, X9, e9, st9⟩ := getF X0 hx hZ hown (host := "") (Or.inl (hw _ (List.mem_of_getElem? (i := 18) rfl))) Via.refl e0 F_width_a1 (g := (mkF m 2 #[.val (.ref a1), .val (.int (0 : Int32)), .unset, .unset] [(.ref a1), (.int (0 : Int32))])) rfl rfl (hb hby d4_2)
    refine Goes.st (U' := T9.setTop (mkF m 5 #[.val (.ref a1), .val (.int (0 : Int32)), .unset, .unset] [(.int (4 : Int32)), (.int (0 : Int32))])) (fun t k => st9 t k) ?_
    refine Goes.st (U' := T9.setTop (mkF m 6 #[.val (.ref a1), .val (.int (0 : Int32)), .unset, .unset] [(.int (0 : Int32))])) (fun t k => XS.imul X9.here hx rfl (hb hby d4_5) rfl k) ?_
    refine Goes.st (U' := T9.setTop (mkF m 7 #[.val (.ref a1), .val (.int (0 : Int32)), .val (.int (0 : Int32)), .unset] [])) (fun t k => XS.istoreN X9.here hx rfl (hb hby d4_6) rfl (l' := #[.val (.ref a1), .val (.int (0 : Int32)), .val (.int (0 : Int32)), .unset]) rfl k) ?_
    refine Goes.st (U' := T9.setTop (mkF m 8 #[.val (.ref a1), .val (.int (0 : Int32)), .val (.int (0 : Int32)), .unset] [(.ref a1)])) (fun t k => XS.aloadN X9.here hx rfl (hb hby d4_7) rfl rfl k) ?_
    obtain ⟨T10, X10, e10, st10⟩ := getF X9 hx hZ hown (host := "") (Or.inl (hw _ (List.mem_of_getElem? (i := 16) rfl))) Via.refl e9 F_bytes_a1 (g := (mkF m 8 #[.val (.ref a1), .val (.int (0 : Int32)), .val (.int (0 : Int32)), .unset] [(.ref a1)])) rfl rfl (hb hby d4_8)
    refine Goes.st (U' := T10.setTop (mkF m 11 #[.val (.ref a1), .val (.int (0 : Int32)), .val (.int (0 : Int32)), .unset] [(.ref arr)])) (fun t k => st10 t k) ?_
    refine Goes.st (U' := T10.setTop (mkF m 12 #[.val (.ref a1), .val (.int (0 : Int32)), .val (.int (0 : Int32)), .unset] [(.int (0 : Int32)), (.ref arr)])) (fun t k => XS.iloadN X10.here hx rfl (hb hby d4_11) rfl k) ?_
    have Vx11 := V_arr
    obtain ⟨cl11, Ar11, qa11, S11, Nn11, H11, G11⟩ := Vx11
    have hin11 : ¬ ((0 : Int32) < 0 ∨ cl11.slots.size ≤ ((0 : Int32)).toNatClampNeg) := inb_of S11 ⟨by decide, by decide⟩
    have hat11 : cl11.slots[((0 : Int32)).toNatClampNeg]? = some (.int (own_b0 x0)) := H11.at hin11 rfl
    refine Goes.st (U' := T10.setTop (mkF m 13 #[.val (.ref a1), .val (.int (0 : Int32)), .val (.int (0 : Int32)), .unset] [(.int (own_b0 x0))])) (fun t k => X10.baloadBytes hx (j := (0 : Int32)) (v := (.int (own_b0 x0))) (by rw [e10]; exact Ar11.1) (State.isArrayOf_alike hZ.alike Ar11.2.1) Ar11.2.2 hin11 hat11 (g := (mkF m 12 #[.val (.ref a1), .val (.int (0 : Int32)), .val (.int (0 : Int32)), .unset] [(.int (0 : Int32)), (.ref arr)])) rfl rfl (hb hby d4_12) t k) ?_
    refine Goes.st (U' := T10.setTop (mkF m 16 #[.val (.ref a1), .val (.int (0 : Int32)), .val (.int (0 : Int32)), .unset] [(.int (255 : Int32)), (.int (own_b0 x0))])) (fun t k => XS.sipush X10.here hx rfl (hb hby d4_13) k) ?_
    refine Goes.st (U' := T10.setTop (mkF m 17 #[.val (.ref a1), .val (.int (0 : Int32)), .val (.int (0 : Int32)), .unset] [(.int ((own_b0 x0) &&& (255 : Int32)))])) (fun t k => XS.iand X10.here hx rfl (hb hby d4_16) rfl k) ?_
    refine Goes.st (U' := T10.setTop (mkF m 18 #[.val (.ref a1), .val (.int (0 : Int32)), .val (.int (0 : Int32)), .unset] [(.ref a1), (.int ((own_b0 x0) &&& (255 : Int32)))])) (fun t k => XS.aloadN X10.here hx rfl (hb hby d4_17) rfl rfl k) ?_
    obtain ⟨T12, X12, e12, st12⟩ := getF X10 hx hZ hown (host := "") (Or.inl (hw _ (List.mem_of_getElem? (i := 16) rfl))) Via.refl e10 F_bytes_a1 (g := (mkF m 18 #[.val (.ref a1), .val (.int (0 : Int32)), .val (.int (0 : Int32)), .unset] [(.ref a1), (.int ((own_b0 x0) &&& (255 : Int32)))])) rfl rfl (hb hby d4_18)
    refine Goes.st (U' := T12.setTop (mkF m 21 #[.val (.ref a1), .val (.int (0 : Int32)), .val (.int (0 : Int32)), .unset] [(.ref arr), (.int ((own_b0 x0) &&& (255 : Int32)))])) (fun t k => st12 t k) ?_
    refine Goes.st (U' := T12.setTop (mkF m 22 #[.val (.ref a1), .val (.int (0 : Int32)), .val (.int (0 : Int32)), .unset] [(.int (0 : Int32)), (.ref arr), (.int ((own_b0 x0) &&& (255 : Int32)))])) (fun t k => XS.iloadN X12.here hx rfl (hb hby d4_21) rfl k) ?_
    refine Goes.st (U' := T12.setTop (mkF m 23 #[.val (.ref a1), .val (.int (0 : Int32)), .val (.int (0 : Int32)), .unset] [(.int (1 : Int32)), (.int (0 : Int32)), (.ref arr), (.int ((own_b0 x0) &&& (255 : Int32)))])) (fun t k => XS.iconst X12.here hx rfl (hb hby d4_22) k) ?_
    refine Goes.st (U' := T12.setTop (mkF m 24 #[.val (.ref a1), .val (.int (0 : Int32)), .val (.int (0 : Int32)), .unset] [(.int (1 : Int32)), (.ref arr), (.int ((own_b0 x0) &&& (255 : Int32)))])) (fun t k => XS.iadd X12.here hx rfl (hb hby d4_23) rfl k) ?_
    have Vx13 := V_arr
    obtain ⟨cl13, Ar13, qa13, S13, Nn13, H13, G13⟩ := Vx13
    have hin13 : ¬ ((1 : Int32) < 0 ∨ cl13.slots.size ≤ ((1 : Int32)).toNatClampNeg) := inb_of S13 ⟨by decide, by decide⟩
    have hat13 : cl13.slots[((1 : Int32)).toNatClampNeg]? = some (.int (own_b1 x0)) := H13.at hin13 rfl
    refine Goes.st (U' := T12.setTop (mkF m 25 #[.val (.ref a1), .val (.int (0 : Int32)), .val (.int (0 : Int32)), .unset] [(.int (own_b1 x0)), (.int ((own_b0 x0) &&& (255 : Int32)))])) (fun t k => X12.baloadBytes hx (j := (1 : Int32)) (v := (.int (own_b1 x0))) (by rw [e12]; exact Ar13.1) (State.isArrayOf_alike hZ.alike Ar13.2.1) Ar13.2.2 hin13 hat13 (g := (mkF m 24 #[.val (.ref a1), .val (.int (0 : Int32)), .val (.int (0 : Int32)), .unset] [(.int (1 : Int32)), (.ref arr), (.int ((own_b0 x0) &&& (255 : Int32)))])) rfl rfl (hb hby d4_24) t k) ?_
    refine Goes.st (U' := T12.setTop (mkF m 28 #[.val (.ref a1), .val (.int (0 : Int32)), .val (.int (0 : Int32)), .unset] [(.int (255 : Int32)), (.int (own_b1 x0)), (.int ((own_b0 x0) &&& (255 : Int32)))])) (fun t k => XS.sipush X12.here hx rfl (hb hby d4_25) k) ?_
    refine Goes.st (U' := T12.setTop (mkF m 29 #[.val (.ref a1), .val (.int (0 : Int32)), .val (.int (0 : Int32)), .unset] [(.int ((own_b1 x0) &&& (255 : Int32))), (.int ((own_b0 x0) &&& (255 : Int32)))])) (fun t k => XS.iand X12.here hx rfl (hb hby d4_28) rfl k) ?_
    refine Goes.st (U' := T12.setTop (mkF m 31 #[.val (.ref a1), .val (.int (0 : Int32)), .val (.int (0 : Int32)), .unset] [(.int (8 : Int32)), (.int ((own_b1 x0) &&& (255 : Int32))), (.int ((own_b0 x0) &&& (255 : Int32)))])) (fun t k => XS.bipush X12.here hx rfl (hb hby d4_29) k) ?_
    refine Goes.st (U' := T12.setTop (mkF m 32 #[.val (.ref a1), .val (.int (0 : Int32)), .val (.int (0 : Int32)), .unset] [(.int (((own_b1 x0) &&& (255 : Int32)) <<< ((8 : Int32) &&& 31))), (.int ((own_b0 x0) &&& (255 : Int32)))])) (fun t k => XS.ishl X12.here hx rfl (hb hby d4_31) rfl k) ?_
    refine Goes.st (U' := T12.setTop (mkF m 33 #[.val (.ref a1), .val (.int (0 : Int32)), .val (.int (0 : Int32)), .unset] [(.int (((own_b0 x0) &&& (255 : Int32)) ||| (((own_b1 x0) &&& (255 : Int32)) <<< ((8 : Int32) &&& 31))))])) (fun t k => XS.ior X12.here hx rfl (hb hby d4_32) rfl k) ?_
    refine Goes.st (U' := T12.setTop (mkF m 34 #[.val (.ref a1), .val (.int (0 : Int32)), .val (.int (0 : Int32)), .val (.int (((own_b0 x0) &&& (255 : Int32)) ||| (((own_b1 x0) &&& (255 : Int32)) <<< ((8 : Int32) &&& 31))))] [])) (fun t k => XS.istoreN X12.here hx rfl (hb hby d4_33) rfl (l' := #[.val (.ref a1), .val (.int (0 : Int32)), .val (.int (0 : Int32)), .val (.int (((own_b0 x0) &&& (255 : Int32)) ||| (((own_b1 x0) &&& (255 : Int32)) <<< ((8 : Int32) &&& 31))))]) rfl k) ?_
    refine Goes.st (U' := T12.setTop (mkF m 35 #[.val (.ref a1), .val (.int (0 : Int32)), .val (.int (0 : Int32)), .val (.int (((own_b0 x0) &&& (255 : Int32)) ||| (((own_b1 x0) &&& (255 : Int32)) <<< ((8 : Int32) &&& 31))))] [(.ref a1)])) (fun t k => XS.aloadN X12.here hx rfl (hb hby d4_34) rfl rfl k) ?_
    obtain ⟨T14, X14, e14, st14⟩ := getF X12 hx hZ hown (host := "") (Or.inl (hw _ (List.mem_of_getElem? (i := 18) rfl))) Via.refl e12 F_width_a1 (g := (mkF m 35 #[.val (.ref a1), .val (.int (0 : Int32)), .val (.int (0 : Int32)), .val (.int (((own_b0 x0) &&& (255 : Int32)) ||| (((own_b1 x0) &&& (255 : Int32)) <<< ((8 : Int32) &&& 31))))] [(.ref a1)])) rfl rfl (hb hby d4_35)
    refine Goes.st (U' := T14.setTop (mkF m 38 #[.val (.ref a1), .val (.int (0 : Int32)), .val (.int (0 : Int32)), .val (.int (((own_b0 x0) &&& (255 : Int32)) ||| (((own_b1 x0) &&& (255 : Int32)) <<< ((8 : Int32) &&& 31))))] [(.int (4 : Int32))])) (fun t k => st14 t k) ?_
    refine Goes.st (U' := T14.setTop (mkF m 39 #[.val (.ref a1), .val (.int (0 : Int32)), .val (.int (0 : Int32)), .val (.int (((own_b0 x0) &&& (255 : Int32)) ||| (((own_b1 x0) &&& (255 : Int32)) <<< ((8 : Int32) &&& 31))))] [(.int (3 : Int32)), (.int (4 : Int32))])) (fun t k => XS.iconst X14.here hx rfl (hb hby d4_38) k) ?_
    refine Goes.st (U' := T14.setTop (mkF m 58 #[.val (.ref a1), .val (.int (0 : Int32)), .val (.int (0 : Int32)), .val (.int (((own_b0 x0) &&& (255 : Int32)) ||| (((own_b1 x0) &&& (255 : Int32)) <<< ((8 : Int32) &&& 31))))] [])) (fun t k => XS.icmpYes X14.here hx rfl (pc0 := 39) (pc' := 58) rfl (hb hby d4_39) rfl (feq (by decide : ¬ ((4 : Int32) = (3 : Int32)))).2 (by decide) (by decide) k) ?_
    refine Goes.st (U' := T14.setTop (mkF m 59 #[.val (.ref a1), .val (.int (0 : Int32)), .val (.int (0 : Int32)), .val (.int (((own_b0 x0) &&& (255 : Int32)) ||| (((own_b1 x0) &&& (255 : Int32)) <<< ((8 : Int32) &&& 31))))] [(.int (((own_b0 x0) &&& (255 : Int32)) ||| (((own_b1 x0) &&& (255 : Int32)) <<< ((8 : Int32) &&& 31))))])) (fun t k => XS.iloadN X14.here hx rfl (hb hby d4_58) rfl k) ?_
    refine Goes.st (U' := T14.setTop (mkF m 60 #[.val (.ref a1), .val (.int (0 : Int32)), .val (.int (0 : Int32)), .val (.int (((own_b0 x0) &&& (255 : Int32)) ||| (((own_b1 x0) &&& (255 : Int32)) <<< ((8 : Int32) &&& 31))))] [(.ref a1), (.int (((own_b0 x0) &&& (255 : Int32)) ||| (((own_b1 x0) &&& (255 : Int32)) <<< ((8 : Int32) &&& 31))))])) (fun t k => XS.aloadN X14.here hx rfl (hb hby d4_59) rfl rfl k) ?_
    obtain ⟨T15, X15, e15, st15⟩ := getF X14 hx hZ hown (host := "") (Or.inl (hw _ (List.mem_of_getElem? (i := 16) rfl))) Via.refl e14 F_bytes_a1 (g := (mkF m 60 #[.val (.ref a1), .val (.int (0 : Int32)), .val (.int (0 : Int32)), .val (.int (((own_b0 x0) &&& (255 : Int32)) ||| (((own_b1 x0) &&& (255 : Int32)) <<< ((8 : Int32) &&& 31))))] [(.ref a1), (.int (((own_b0 x0) &&& (255 : Int32)) ||| (((own_b1 x0) &&& (255 : Int32)) <<< ((8 : Int32) &&& 31))))])) rfl rfl (hb hby d4_60)
    refine Goes.st (U' := T15.setTop (mkF m 63 #[.val (.ref a1), .val (.int (0 : Int32)), .val (.int (0 : Int32)), .val (.int (((own_b0 x0) &&& (255 : Int32)) ||| (((own_b1 x0) &&& (255 : Int32)) <<< ((8 : Int32) &&& 31))))] [(.ref arr), (.int (((own_b0 x0) &&& (255 : Int32)) ||| (((own_b1 x0) &&& (255 : Int32)) <<< ((8 : Int32) &&& 31))))])) (fun t k => st15 t k) ?_
    refine Goes.st (U' := T15.setTop (mkF m 64 #[.val (.ref a1), .val (.int (0 : Int32)), .val (.int (0 : Int32)), .val (.int (((own_b0 x0) &&& (255 : Int32)) ||| (((own_b1 x0) &&& (255 : Int32)) <<< ((8 : Int32) &&& 31))))] [(.int (0 : Int32)), (.ref arr), (.int (((own_b0 x0) &&& (255 : Int32)) ||| (((own_b1 x0) &&& (255 : Int32)) <<< ((8 : Int32) &&& 31))))])) (fun t k => XS.iloadN X15.here hx rfl (hb hby d4_63) rfl k) ?_
    refine Goes.st (U' := T15.setTop (mkF m 65 #[.val (.ref a1), .val (.int (0 : Int32)), .val (.int (0 : Int32)), .val (.int (((own_b0 x0) &&& (255 : Int32)) ||| (((own_b1 x0) &&& (255 : Int32)) <<< ((8 : Int32) &&& 31))))] [(.int (2 : Int32)), (.int (0 : Int32)), (.ref arr), (.int (((own_b0 x0) &&& (255 : Int32)) ||| (((own_b1 x0) &&& (255 : Int32)) <<< ((8 : Int32) &&& 31))))])) (fun t k => XS.iconst X15.here hx rfl (hb hby d4_64) k) ?_
    refine Goes.st (U' := T15.setTop (mkF m 66 #[.val (.ref a1), .val (.int (0 : Int32)), .val (.int (0 : Int32)), .val (.int (((own_b0 x0) &&& (255 : Int32)) ||| (((own_b1 x0) &&& (255 : Int32)) <<< ((8 : Int32) &&& 31))))] [(.int (2 : Int32)), (.ref arr), (.int (((own_b0 x0) &&& (255 : Int32)) ||| (((own_b1 x0) &&& (255 : Int32)) <<< ((8 : Int32) &&& 31))))])) (fun t k => XS.iadd X15.here hx rfl (hb hby d4_65) rfl k) ?_
    have Vx16 := V_arr
    obtain ⟨cl16, Ar16, qa16, S16, Nn16, H16, G16⟩ := Vx16
    have hin16 : ¬ ((2 : Int32) < 0 ∨ cl16.slots.size ≤ ((2 : Int32)).toNatClampNeg) := inb_of S16 ⟨by decide, by decide⟩
    have hat16 : cl16.slots[((2 : Int32)).toNatClampNeg]? = some (.int (own_b2 x0)) := H16.at hin16 rfl
    refine Goes.st (U' := T15.setTop (mkF m 67 #[.val (.ref a1), .val (.int (0 : Int32)), .val (.int (0 : Int32)), .val (.int (((own_b0 x0) &&& (255 : Int32)) ||| (((own_b1 x0) &&& (255 : Int32)) <<< ((8 : Int32) &&& 31))))] [(.int (own_b2 x0)), (.int (((own_b0 x0) &&& (255 : Int32)) ||| (((own_b1 x0) &&& (255 : Int32)) <<< ((8 : Int32) &&& 31))))])) (fun t k => X15.baloadBytes hx (j := (2 : Int32)) (v := (.int (own_b2 x0))) (by rw [e15]; exact Ar16.1) (State.isArrayOf_alike hZ.alike Ar16.2.1) Ar16.2.2 hin16 hat16 (g := (mkF m 66 #[.val (.ref a1), .val (.int (0 : Int32)), .val (.int (0 : Int32)), .val (.int (((own_b0 x0) &&& (255 : Int32)) ||| (((own_b1 x0) &&& (255 : Int32)) <<< ((8 : Int32) &&& 31))))] [(.int (2 : Int32)), (.ref arr), (.int (((own_b0 x0) &&& (255 : Int32)) ||| (((own_b1 x0) &&& (255 : Int32)) <<< ((8 : Int32) &&& 31))))])) rfl rfl (hb hby d4_66) t k) ?_
    refine Goes.st (U' := T15.setTop (mkF m 70 #[.val (.ref a1), .val (.int (0 : Int32)), .val (.int (0 : Int32)), .val (.int (((own_b0 x0) &&& (255 : Int32)) ||| (((own_b1 x0) &&& (255 : Int32)) <<< ((8 : Int32) &&& 31))))] [(.int (255 : Int32)), (.int (own_b2 x0)), (.int (((own_b0 x0) &&& (255 : Int32)) ||| (((own_b1 x0) &&& (255 : Int32)) <<< ((8 : Int32) &&& 31))))])) (fun t k => XS.sipush X15.here hx rfl (hb hby d4_67) k) ?_
    refine Goes.st (U' := T15.setTop (mkF m 71 #[.val (.ref a1), .val (.int (0 : Int32)), .val (.int (0 : Int32)), .val (.int (((own_b0 x0) &&& (255 : Int32)) ||| (((own_b1 x0) &&& (255 : Int32)) <<< ((8 : Int32) &&& 31))))] [(.int ((own_b2 x0) &&& (255 : Int32))), (.int (((own_b0 x0) &&& (255 : Int32)) ||| (((own_b1 x0) &&& (255 : Int32)) <<< ((8 : Int32) &&& 31))))])) (fun t k => XS.iand X15.here hx rfl (hb hby d4_70) rfl k) ?_
    refine Goes.st (U' := T15.setTop (mkF m 73 #[.val (.ref a1), .val (.int (0 : Int32)), .val (.int (0 : Int32)), .val (.int (((own_b0 x0) &&& (255 : Int32)) ||| (((own_b1 x0) &&& (255 : Int32)) <<< ((8 : Int32) &&& 31))))] [(.int (16 : Int32)), (.int ((own_b2 x0) &&& (255 : Int32))), (.int (((own_b0 x0) &&& (255 : Int32)) ||| (((own_b1 x0) &&& (255 : Int32)) <<< ((8 : Int32) &&& 31))))])) (fun t k => XS.bipush X15.here hx rfl (hb hby d4_71) k) ?_
    refine Goes.st (U' := T15.setTop (mkF m 74 #[.val (.ref a1), .val (.int (0 : Int32)), .val (.int (0 : Int32)), .val (.int (((own_b0 x0) &&& (255 : Int32)) ||| (((own_b1 x0) &&& (255 : Int32)) <<< ((8 : Int32) &&& 31))))] [(.int (((own_b2 x0) &&& (255 : Int32)) <<< ((16 : Int32) &&& 31))), (.int (((own_b0 x0) &&& (255 : Int32)) ||| (((own_b1 x0) &&& (255 : Int32)) <<< ((8 : Int32) &&& 31))))])) (fun t k => XS.ishl X15.here hx rfl (hb hby d4_73) rfl k) ?_
    refine Goes.st (U' := T15.setTop (mkF m 75 #[.val (.ref a1), .val (.int (0 : Int32)), .val (.int (0 : Int32)), .val (.int (((own_b0 x0) &&& (255 : Int32)) ||| (((own_b1 x0) &&& (255 : Int32)) <<< ((8 : Int32) &&& 31))))] [(.int ((((own_b0 x0) &&& (255 : Int32)) ||| (((own_b1 x0) &&& (255 : Int32)) <<< ((8 : Int32) &&& 31))) ||| (((own_b2 x0) &&& (255 : Int32)) <<< ((16 : Int32) &&& 31))))])) (fun t k => XS.ior X15.here hx rfl (hb hby d4_74) rfl k) ?_
    refine Goes.st (U' := T15.setTop (mkF m 76 #[.val (.ref a1), .val (.int (0 : Int32)), .val (.int (0 : Int32)), .val (.int (((own_b0 x0) &&& (255 : Int32)) ||| (((own_b1 x0) &&& (255 : Int32)) <<< ((8 : Int32) &&& 31))))] [(.ref a1), (.int ((((own_b0 x0) &&& (255 : Int32)) ||| (((own_b1 x0) &&& (255 : Int32)) <<< ((8 : Int32) &&& 31))) ||| (((own_b2 x0) &&& (255 : Int32)) <<< ((16 : Int32) &&& 31))))])) (fun t k => XS.aloadN X15.here hx rfl (hb hby d4_75) rfl rfl k) ?_
    obtain ⟨T17, X17, e17, st17⟩ := getF X15 hx hZ hown (host := "") (Or.inl (hw _ (List.mem_of_getElem? (i := 16) rfl))) Via.refl e15 F_bytes_a1 (g := (mkF m 76 #[.val (.ref a1), .val (.int (0 : Int32)), .val (.int (0 : Int32)), .val (.int (((own_b0 x0) &&& (255 : Int32)) ||| (((own_b1 x0) &&& (255 : Int32)) <<< ((8 : Int32) &&& 31))))] [(.ref a1), (.int ((((own_b0 x0) &&& (255 : Int32)) ||| (((own_b1 x0) &&& (255 : Int32)) <<< ((8 : Int32) &&& 31))) ||| (((own_b2 x0) &&& (255 : Int32)) <<< ((16 : Int32) &&& 31))))])) rfl rfl (hb hby d4_76)
    refine Goes.st (U' := T17.setTop (mkF m 79 #[.val (.ref a1), .val (.int (0 : Int32)), .val (.int (0 : Int32)), .val (.int (((own_b0 x0) &&& (255 : Int32)) ||| (((own_b1 x0) &&& (255 : Int32)) <<< ((8 : Int32) &&& 31))))] [(.ref arr), (.int ((((own_b0 x0) &&& (255 : Int32)) ||| (((own_b1 x0) &&& (255 : Int32)) <<< ((8 : Int32) &&& 31))) ||| (((own_b2 x0) &&& (255 : Int32)) <<< ((16 : Int32) &&& 31))))])) (fun t k => st17 t k) ?_
    refine Goes.st (U' := T17.setTop (mkF m 80 #[.val (.ref a1), .val (.int (0 : Int32)), .val (.int (0 : Int32)), .val (.int (((own_b0 x0) &&& (255 : Int32)) ||| (((own_b1 x0) &&& (255 : Int32)) <<< ((8 : Int32) &&& 31))))] [(.int (0 : Int32)), (.ref arr), (.int ((((own_b0 x0) &&& (255 : Int32)) ||| (((own_b1 x0) &&& (255 : Int32)) <<< ((8 : Int32) &&& 31))) ||| (((own_b2 x0) &&& (255 : Int32)) <<< ((16 : Int32) &&& 31))))])) (fun t k => XS.iloadN X17.here hx rfl (hb hby d4_79) rfl k) ?_
    refine Goes.st (U' := T17.setTop (mkF m 81 #[.val (.ref a1), .val (.int (0 : Int32)), .val (.int (0 : Int32)), .val (.int (((own_b0 x0) &&& (255 : Int32)) ||| (((own_b1 x0) &&& (255 : Int32)) <<< ((8 : Int32) &&& 31))))] [(.int (3 : Int32)), (.int (0 : Int32)), (.ref arr), (.int ((((own_b0 x0) &&& (255 : Int32)) ||| (((own_b1 x0) &&& (255 : Int32)) <<< ((8 : Int32) &&& 31))) ||| (((own_b2 x0) &&& (255 : Int32)) <<< ((16 : Int32) &&& 31))))])) (fun t k => XS.iconst X17.here hx rfl (hb hby d4_80) k) ?_
    refine Goes.st (U' := T17.setTop (mkF m 82 #[.val (.ref a1), .val (.int (0 : Int32)), .val (.int (0 : Int32)), .val (.int (((own_b0 x0) &&& (255 : Int32)) ||| (((own_b1 x0) &&& (255 : Int32)) <<< ((8 : Int32) &&& 31))))] [(.int (3 : Int32)), (.ref arr), (.int ((((own_b0 x0) &&& (255 : Int32)) ||| (((own_b1 x0) &&& (255 : Int32)) <<< ((8 : Int32) &&& 31))) ||| (((own_b2 x0) &&& (255 : Int32)) <<< ((16 : Int32) &&& 31))))])) (fun t k => XS.iadd X17.here hx rfl (hb hby d4_81) rfl k) ?_
    have Vx18 := V_arr
    obtain ⟨cl18, Ar18, qa18, S18, Nn18, H18, G18⟩ := Vx18
    have hin18 : ¬ ((3 : Int32) < 0 ∨ cl18.slots.size ≤ ((3 : Int32)).toNatClampNeg) := inb_of S18 ⟨by decide, by decide⟩
    have hat18 : cl18.slots[((3 : Int32)).toNatClampNeg]? = some (.int (own_b3 x0)) := H18.at hin18 rfl
    refine Goes.st (U' := T17.setTop (mkF m 83 #[.val (.ref a1), .val (.int (0 : Int32)), .val (.int (0 : Int32)), .val (.int (((own_b0 x0) &&& (255 : Int32)) ||| (((own_b1 x0) &&& (255 : Int32)) <<< ((8 : Int32) &&& 31))))] [(.int (own_b3 x0)), (.int ((((own_b0 x0) &&& (255 : Int32)) ||| (((own_b1 x0) &&& (255 : Int32)) <<< ((8 : Int32) &&& 31))) ||| (((own_b2 x0) &&& (255 : Int32)) <<< ((16 : Int32) &&& 31))))])) (fun t k => X17.baloadBytes hx (j := (3 : Int32)) (v := (.int (own_b3 x0))) (by rw [e17]; exact Ar18.1) (State.isArrayOf_alike hZ.alike Ar18.2.1) Ar18.2.2 hin18 hat18 (g := (mkF m 82 #[.val (.ref a1), .val (.int (0 : Int32)), .val (.int (0 : Int32)), .val (.int (((own_b0 x0) &&& (255 : Int32)) ||| (((own_b1 x0) &&& (255 : Int32)) <<< ((8 : Int32) &&& 31))))] [(.int (3 : Int32)), (.ref arr), (.int ((((own_b0 x0) &&& (255 : Int32)) ||| (((own_b1 x0) &&& (255 : Int32)) <<< ((8 : Int32) &&& 31))) ||| (((own_b2 x0) &&& (255 : Int32)) <<< ((16 : Int32) &&& 31))))])) rfl rfl (hb hby d4_82) t k) ?_
    refine Goes.st (U' := T17.setTop (mkF m 85 #[.val (.ref a1), .val (.int (0 : Int32)), .val (.int (0 : Int32)), .val (.int (((own_b0 x0) &&& (255 : Int32)) ||| (((own_b1 x0) &&& (255 : Int32)) <<< ((8 : Int32) &&& 31))))] [(.int (24 : Int32)), (.int (own_b3 x0)), (.int ((((own_b0 x0) &&& (255 : Int32)) ||| (((own_b1 x0) &&& (255 : Int32)) <<< ((8 : Int32) &&& 31))) ||| (((own_b2 x0) &&& (255 : Int32)) <<< ((16 : Int32) &&& 31))))])) (fun t k => XS.bipush X17.here hx rfl (hb hby d4_83) k) ?_
    refine Goes.st (U' := T17.setTop (mkF m 86 #[.val (.ref a1), .val (.int (0 : Int32)), .val (.int (0 : Int32)), .val (.int (((own_b0 x0) &&& (255 : Int32)) ||| (((own_b1 x0) &&& (255 : Int32)) <<< ((8 : Int32) &&& 31))))] [(.int ((own_b3 x0) <<< ((24 : Int32) &&& 31))), (.int ((((own_b0 x0) &&& (255 : Int32)) ||| (((own_b1 x0) &&& (255 : Int32)) <<< ((8 : Int32) &&& 31))) ||| (((own_b2 x0) &&& (255 : Int32)) <<< ((16 : Int32) &&& 31))))])) (fun t k => XS.ishl X17.here hx rfl (hb hby d4_85) rfl k) ?_
    refine Goes.st (U' := T17.setTop (mkF m 87 #[.val (.ref a1), .val (.int (0 : Int32)), .val (.int (0 : Int32)), .val (.int (((own_b0 x0) &&& (255 : Int32)) ||| (((own_b1 x0) &&& (255 : Int32)) <<< ((8 : Int32) &&& 31))))] [(.int (((((own_b0 x0) &&& (255 : Int32)) ||| (((own_b1 x0) &&& (255 : Int32)) <<< ((8 : Int32) &&& 31))) ||| (((own_b2 x0) &&& (255 : Int32)) <<< ((16 : Int32) &&& 31))) ||| ((own_b3 x0) <<< ((24 : Int32) &&& 31))))])) (fun t k => XS.ior X17.here hx rfl (hb hby d4_86) rfl k) ?_
    refine Goes.retI X17 hx (BodyLoose.notSynchronized Bd) Bd.returns (hb hby d4_87) (by decide) (by decide) ?_
    show Q_rmG0 Z a1 (0 : Int32) x0 x1 x2 h0 n0 _ T17.heap _
    rw [e17]
    exact ⟨by rw [own_d4], N0, rfl⟩
theorem ef_rmG1 (m : MethodId) (a1 : Addr) (p2 : Int32) : entryFrame m #[(.ref a1), (.int p2)] 4 = mkF m 0 #[.val (.ref a1), .val (.int p2), .unset, .unset] [] := by first | (simp [entryFrame, mkF, argsToLocals, Value.category]; done) | rfl
def Q_rmG1 (Z : State) (a1 : Addr) (p2 : Int32) (x0 : Int32) (x1 : Int32) (x2 : Int32) (h0 : Heap) (n0 : Nat) (v : Option Value) (h : Heap) (L : List Loc) : Prop := v = some (.int x1) ∧ Fr n0 L ∧ h = h0
set_option maxRecDepth 65536 in
set_option maxHeartbeats 40000000 in
theorem rmG1 (l : Launch) (Z : State) (a0 : Array Value) (hw : ∀ d ∈ tables_1, d.before a0 Z = true) (ws : List Jvm.Cond) (a1 : Addr) (p2 : Int32) (x0 : Int32) (x1 : Int32) (x2 : Int32) (h0 : Heap) (n0 : Nat) (Z0 : n0 ≤ h0.size) (I : PI Z h0 a1 n0 x0 x1 x2) (e2 : p2 = (1 : Int32)) :
    MetFree l (⟨"com/example/chaise/chaise/core/PackedInts", "get", "(I)I"⟩ : MethodName) (head1 (Jvm.Cond.code (⟨"com/example/chaise/chaise/core/PackedInts", "get", "(I)I"⟩ : MethodName) prog_81_method_5_code 4 (some .int) :: ws) ({ frames := 0, cells := 0, slots := 0, locals := 0 } : Room)) (fun a U => a = #[(.ref a1), (.int p2)] ∧ Z.Warmed39 U.vm ∧ U.heap = h0) (fun _ _ _ _ _ => True) (fun _ U o U' => ∃ v L, o = .returned v ∧ Q_rmG1 Z a1 (1 : Int32) x0 x1 x2 h0 n0 v U'.heap L ∧ FrameEnd U o U' L ({ frames := 0, cells := 0, slots := 0, locals := 0 } : Room).cells ({ frames := 0, cells := 0, slots := 0, locals := 0 } : Room).slots) := by
  refine MetFree.of_bodySF (plainFor_of_name pn_0) hisR ?_
  intro p e s m args below meth c s₁ Bd hml0 hP hK
  obtain ⟨rfl, hZ, hh⟩ := hP
  have hx := Bd.exec
  have hby := Bd.bytes
  have hml : c.maxLocals = 4 := hml0
  have hown : s.vm.findClass "com/example/chaise/chaise/core/PackedInts" = some m.cls := findClass_of_methodNamed Bd.named
  have hnm := (name_of_methodNamed Bd.named Bd.method).1
  have X0 : Stand p l e ({ frames := 0, cells := 0, slots := 0, locals := 0 } : Room) s m #[(.ref a1), (.int p2)] below meth c s₁ [] 0 0 := Stand.of_body Bd
  have e0 : s₁.heap = h0 := by rw [← hh, Bd.state]; rfl
  have N0 := Fr.nil n0
  show Goes p e s below (fun v h L => Q_rmG1 Z a1 (1 : Int32) x0 x1 x2 h0 n0 v h L) ({ frames := 0, cells := 0, slots := 0, locals := 0 } : Room).cells ({ frames := 0, cells := 0, slots := 0, locals := 0 } : Room).slots (s₁.setTop (entryFrame m #[(.ref a1), (.int p2)] 4))
  refine Goes.st (U' := s₁.setTop (mkF m 0 #[.val (.ref a1), .val (.int p2), .unset, .unset] [])) (fun t k => castTop (ef_rmG1 m a1 p2) k) ?_
  subst e2
  rcases I with ⟨arr, k, P, g_arr⟩ | ⟨arr, k, P, g_arr⟩
  · skip
    obtain ⟨E_a1, F_length_a1, F_bytes_a1, F_width_a1, V_arr, ne_a1_arr, hf0_a1, hf1_a1, hf2_a1⟩ := P
    refine Goes.st (U' := s₁.setTop (mkF m 1 #[.val (.ref a1), .val (.int (1 : Int32)), .unset, .unset] [(.int (1 : Int32))])) (fun t k => XS.iloadN X0.here hx rfl (hb hby d4_0) rfl k) ?_
    refine Goes.st (U' := s₁.setTop (mkF m 2 #[.val (.ref a1), .val (.int (1 : Int32)), .unset, .unset] [(.ref a1), (.int (1 : Int32))])) (fun t k => XS.aloadN X0.here hx rfl (hb hby d4_1) rfl rfl k) ?_
    obtain ⟨T1, X1, e1, st1⟩ := getF X0 hx hZ hown (host := "") (Or.inl (hw _ (List.mem_of_getElem? (i := 18) rfl))) Via.refl e0 F_width_a1 (g := (mkF m 2 #[.val (.ref a1), .val (.int (1 : Int32)), .unset, .unset] [(.ref a1), (.int (1 : Int32))])) rfl rfl (hb hby d4_2)
    refine Goes.st (U' := T1.setTop (mkF m 5 #[.val (.ref a1), .val (.int (1 : Int32)), .unset, .unset] [(.int (3 : Int32)), (.int (1 : Int32))])) (fun t k => st1 t k) ?_
    refine Goes.st (U' := T1.setTop (mkF m 6 #[.val (.ref a1), .val (.int (1 : Int32)), .unset, .unset] [(.int (3 : Int32))])) (fun t k => XS.imul X1.here hx rfl (hb hby d4_5) rfl k) ?_
    refine Goes.st (U' := T1.setTop (mkF m 7 #[.val (.ref a1), .val (.int (1 : Int32)), .val (.int (3 : Int32)), .unset] [])) (fun t k => XS.istoreN X1.here hx rfl (hb hby d4_6) rfl (l' := #[.val (.ref a1), .val (.int (1 : Int32)), .val (.int (3 : Int32)), .unset]) rfl k) ?_
    refine Goes.st (U' := T1.setTop (mkF m 8 #[.val (.ref a1), .val (.int (1 : Int32)), .val (.int (3 : Int32)), .unset] [(.ref a1)])) (fun t k => XS.aloadN X1.here hx rfl (hb hby d4_7) rfl rfl k) ?_
    obtain ⟨T2, X2, e2, st2⟩ := getF X1 hx hZ hown (host := "") (Or.inl (hw _ (List.mem_of_getElem? (i := 16) rfl))) Via.refl e1 F_bytes_a1 (g := (mkF m 8 #[.val (.ref a1), .val (.int (1 : Int32)), .val (.int (3 : Int32)), .unset] [(.ref a1)])) rfl rfl (hb hby d4_8)
    refine Goes.st (U' := T2.setTop (mkF m 11 #[.val (.ref a1), .val (.int (1 : Int32)), .val (.int (3 : Int32)), .unset] [(.ref arr)])) (fun t k => st2 t k) ?_
    refine Goes.st (U' := T2.setTop (mkF m 12 #[.val (.ref a1), .val (.int (1 : Int32)), .val (.int (3 : Int32)), .unset] [(.int (3 : Int32)), (.ref arr)])) (fun t k => XS.iloadN X2.here hx rfl (hb hby d4_11) rfl k) ?_
    have Vx3 := V_arr
    obtain ⟨cl3, Ar3, qa3, S3, Nn3, H3, G3⟩ := Vx3
    have hin3 : ¬ ((3 : Int32) < 0 ∨ cl3.slots.size ≤ ((3 : Int32)).toNatClampNeg) := inb_of S3 ⟨by decide, by decide⟩
    have hat3 : cl3.slots[((3 : Int32)).toNatClampNeg]? = some (.int (own_b0 x1)) := H3.at hin3 rfl
    refine Goes.st (U' := T2.setTop (mkF m 13 #[.val (.ref a1), .val (.int (1 : Int32)), .val (.int (3 : Int32)), .unset] [(.int (own_b0 x1))])) (fun t k => X2.baloadBytes hx (j := (3 : Int32)) (v := (.int (own_b0 x1))) (by rw [e2]; exact Ar3.1) (State.isArrayOf_alike hZ.alike Ar3.2.1) Ar3.2.2 hin3 hat3 (g := (mkF m 12 #[.val (.ref a1), .val (.int (1 : Int32)), .val (.int (3 : Int32)), .unset] [(.int (3 : Int32)), (.ref arr)])) rfl rfl (hb hby d4_12) t k) ?_
    refine Goes.st (U' := T2.setTop (mkF m 16 #[.val (.ref a1), .val (.int (1 : Int32)), .val (.int (3 : Int32)), .unset] [(.int (255 : Int32)), (.int (own_b0 x1))])) (fun t k => XS.sipush X2.here hx rfl (hb hby d4_13) k) ?_
    refine Goes.st (U' := T2.setTop (mkF m 17 #[.val (.ref a1), .val (.int (1 : Int32)), .val (.int (3 : Int32)), .unset] [(.int ((own_b0 x1) &&& (255 : Int32)))])) (fun t k => XS.iand X2.here hx rfl (hb hby d4_16) rfl k) ?_
    refine Goes.st (U' := T2.setTop (mkF m 18 #[.val (.ref a1), .val (.int (1 : Int32)), .val (.int (3 : Int32)), .unset] [(.ref a1), (.int ((own_b0 x1) &&& (255 : Int32)))])) (fun t k => XS.aloadN X2.here hx rfl (hb hby d4_17) rfl rfl k) ?_
    obtain ⟨T4, X4, e4, st4⟩ := getF X2 hx hZ hown (host := "") (Or.inl (hw _ (List.mem_of_getElem? (i := 16) rfl))) Via.refl e2 F_bytes_a1 (g := (mkF m 18 #[.val (.ref a1), .val (.int (1 : Int32)), .val (.int (3 : Int32)), .unset] [(.ref a1), (.int ((own_b0 x1) &&& (255 : Int32)))])) rfl rfl (hb hby d4_18)
    refine Goes.st (U' := T4.setTop (mkF m 21 #[.val (.ref a1), .val (.int (1 : Int32)), .val (.int (3 : Int32)), .unset] [(.ref arr), (.int ((own_b0 x1) &&& (255 : Int32)))])) (fun t k => st4 t k) ?_
    refine Goes.st (U' := T4.setTop (mkF m 22 #[.val (.ref a1), .val (.int (1 : Int32)), .val (.int (3 : Int32)), .unset] [(.int (3 : Int32)), (.ref arr), (.int ((own_b0 x1) &&& (255 : Int32)))])) (fun t k => XS.iloadN X4.here hx rfl (hb hby d4_21) rfl k) ?_
    refine Goes.st (U' := T4.setTop (mkF m 23 #[.val (.ref a1), .val (.int (1 : Int32)), .val (.int (3 : Int32)), .unset] [(.int (1 : Int32)), (.int (3 : Int32)), (.ref arr), (.int ((own_b0 x1) &&& (255 : Int32)))])) (fun t k => XS.iconst X4.here hx rfl (hb hby d4_22) k) ?_
    refine Goes.st (U' := T4.setTop (mkF m 24 #[.val (.ref a1), .val (.int (1 : Int32)), .val (.int (3 : Int32)), .unset] [(.int (4 : Int32)), (.ref arr), (.int ((own_b0 x1) &&& (255 : Int32)))])) (fun t k => XS.iadd X4.here hx rfl (hb hby d4_23) rfl k) ?_
    have Vx5 := V_arr
    obtain ⟨cl5, Ar5, qa5, S5, Nn5, H5, G5⟩ := Vx5
    have hin5 : ¬ ((4 : Int32) < 0 ∨ cl5.slots.size ≤ ((4 : Int32)).toNatClampNeg) := inb_of S5 ⟨by decide, by decide⟩
    have hat5 : cl5.slots[((4 : Int32)).toNatClampNeg]? = some (.int (own_b1 x1)) := H5.at hin5 rfl
    refine Goes.st (U' := T4.setTop (mkF m 25 #[.val (.ref a1), .val (.int (1 : Int32)), .val (.int (3 : Int32)), .unset] [(.int (own_b1 x1)), (.int ((own_b0 x1) &&& (255 : Int32)))])) (fun t k => X4.baloadBytes hx (j := (4 : Int32)) (v := (.int (own_b1 x1))) (by rw [e4]; exact Ar5.1) (State.isArrayOf_alike hZ.alike Ar5.2.1) Ar5.2.2 hin5 hat5 (g := (mkF m 24 #[.val (.ref a1), .val (.int (1 : Int32)), .val (.int (3 : Int32)), .unset] [(.int (4 : Int32)), (.ref arr), (.int ((own_b0 x1) &&& (255 : Int32)))])) rfl rfl (hb hby d4_24) t k) ?_
    refine Goes.st (U' := T4.setTop (mkF m 28 #[.val (.ref a1), .val (.int (1 : Int32)), .val (.int (3 : Int32)), .unset] [(.int (255 : Int32)), (.int (own_b1 x1)), (.int ((own_b0 x1) &&& (255 : Int32)))])) (fun t k => XS.sipush X4.here hx rfl (hb hby d4_25) k) ?_
    refine Goes.st (U' := T4.setTop (mkF m 29 #[.val (.ref a1), .val (.int (1 : Int32)), .val (.int (3 : Int32)), .unset] [(.int ((own_b1 x1) &&& (255 : Int32))), (.int ((own_b0 x1) &&& (255 : Int32)))])) (fun t k => XS.iand X4.here hx rfl (hb hby d4_28) rfl k) ?_
    refine Goes.st (U' := T4.setTop (mkF m 31 #[.val (.ref a1), .val (.int (1 : Int32)), .val (.int (3 : Int32)), .unset] [(.int (8 : Int32)), (.int ((own_b1 x1) &&& (255 : Int32))), (.int ((own_b0 x1) &&& (255 : Int32)))])) (fun t k => XS.bipush X4.here hx rfl (hb hby d4_29) k) ?_
    refine Goes.st (U' := T4.setTop (mkF m 32 #[.val (.ref a1), .val (.int (1 : Int32)), .val (.int (3 : Int32)), .unset] [(.int (((own_b1 x1) &&& (255 : Int32)) <<< ((8 : Int32) &&& 31))), (.int ((own_b0 x1) &&& (255 : Int32)))])) (fun t k => XS.ishl X4.here hx rfl (hb hby d4_31) rfl k) ?_
    refine Goes.st (U' := T4.setTop (mkF m 33 #[.val (.ref a1), .val (.int (1 : Int32)), .val (.int (3 : Int32)), .unset] [(.int (((own_b0 x1) &&& (255 : Int32)) ||| (((own_b1 x1) &&& (255 : Int32)) <<< ((8 : Int32) &&& 31))))])) (fun t k => XS.ior X4.here hx rfl (hb hby d4_32) rfl k) ?_
    refine Goes.st (U' := T4.setTop (mkF m 34 #[.val (.ref a1), .val (.int (1 : Int32)), .val (.int (3 : Int32)), .val (.int (((own_b0 x1) &&& (255 : Int32)) ||| (((own_b1 x1) &&& (255 : Int32)) <<< ((8 : Int32) &&& 31))))] [])) (fun t k => XS.istoreN X4.here hx rfl (hb hby d4_33) rfl (l' := #[.val (.ref a1), .val (.int (1 : Int32)), .val (.int (3 : Int32)), .val (.int (((own_b0 x1) &&& (255 : Int32)) ||| (((own_b1 x1) &&& (255 : Int32)) <<< ((8 : Int32) &&& 31))))]) rfl k) ?_
    refine Goes.st (U' := T4.setTop (mkF m 35 #[.val (.ref a1), .val (.int (1 : Int32)), .val (.int (3 : Int32)), .val (.int (((own_b0 x1) &&& (255 : Int32)) ||| (((own_b1 x1) &&& (255 : Int32)) <<< ((8 : Int32) &&& 31))))] [(.ref a1)])) (fun t k => XS.aloadN X4.here hx rfl (hb hby d4_34) rfl rfl k) ?_
    obtain ⟨T6, X6, e6, st6⟩ := getF X4 hx hZ hown (host := "") (Or.inl (hw _ (List.mem_of_getElem? (i := 18) rfl))) Via.refl e4 F_width_a1 (g := (mkF m 35 #[.val (.ref a1), .val (.int (1 : Int32)), .val (.int (3 : Int32)), .val (.int (((own_b0 x1) &&& (255 : Int32)) ||| (((own_b1 x1) &&& (255 : Int32)) <<< ((8 : Int32) &&& 31))))] [(.ref a1)])) rfl rfl (hb hby d4_35)
    refine Goes.st (U' := T6.setTop (mkF m 38 #[.val (.ref a1), .val (.int (1 : Int32)), .val (.int (3 : Int32)), .val (.int (((own_b0 x1) &&& (255 : Int32)) ||| (((own_b1 x1) &&& (255 : Int32)) <<< ((8 : Int32) &&& 31))))] [(.int (3 : Int32))])) (fun t k => st6 t k) ?_
    refine Goes.st (U' := T6.setTop (mkF m 39 #[.val (.ref a1), .val (.int (1 : Int32)), .val (.int (3 : Int32)), .val (.int (((own_b0 x1) &&& (255 : Int32)) ||| (((own_b1 x1) &&& (255 : Int32)) <<< ((8 : Int32) &&& 31))))] [(.int (3 : Int32)), (.int (3 : Int32))])) (fun t k => XS.iconst X6.here hx rfl (hb hby d4_38) k) ?_
    refine Goes.st (U' := T6.setTop (mkF m 42 #[.val (.ref a1), .val (.int (1 : Int32)), .val (.int (3 : Int32)), .val (.int (((own_b0 x1) &&& (255 : Int32)) ||| (((own_b1 x1) &&& (255 : Int32)) <<< ((8 : Int32) &&& 31))))] [])) (fun t k => XS.icmpNo X6.here hx rfl (hb hby d4_39) rfl (teq (rfl : (3 : Int32) = (3 : Int32))).2 k) ?_
    refine Goes.st (U' := T6.setTop (mkF m 43 #[.val (.ref a1), .val (.int (1 : Int32)), .val (.int (3 : Int32)), .val (.int (((own_b0 x1) &&& (255 : Int32)) ||| (((own_b1 x1) &&& (255 : Int32)) <<< ((8 : Int32) &&& 31))))] [(.int (((own_b0 x1) &&& (255 : Int32)) ||| (((own_b1 x1) &&& (255 : Int32)) <<< ((8 : Int32) &&& 31))))])) (fun t k => XS.iloadN X6.here hx rfl (hb hby d4_42) rfl k) ?_
    refine Goes.st (U' := T6.setTop (mkF m 44 #[.val (.ref a1), .val (.int (1 : Int32)), .val (.int (3 : Int32)), .val (.int (((own_b0 x1) &&& (255 : Int32)) ||| (((own_b1 x1) &&& (255 : Int32)) <<< ((8 : Int32) &&& 31))))] [(.ref a1), (.int (((own_b0 x1) &&& (255 : Int32)) ||| (((own_b1 x1) &&& (255 : Int32)) <<< ((8 : Int32) &&& 31))))])) (fun t k => XS.aloadN X6.here hx rfl (hb hby d4_43) rfl rfl k) ?_
    obtain ⟨T7, X7, e7, st7⟩ := getF X6 hx hZ hown (host := "") (Or.inl (hw _ (List.mem_of_getElem? (i := 16) rfl))) Via.refl e6 F_bytes_a1 (g := (mkF m 44 #[.val (.ref a1), .val (.int (1 : Int32)), .val (.int (3 : Int32)), .val (.int (((own_b0 x1) &&& (255 : Int32)) ||| (((own_b1 x1) &&& (255 : Int32)) <<< ((8 : Int32) &&& 31))))] [(.ref a1), (.int (((own_b0 x1) &&& (255 : Int32)) ||| (((own_b1 x1) &&& (255 : Int32)) <<< ((8 : Int32) &&& 31))))])) rfl rfl (hb hby d4_44)
    refine Goes.st (U' := T7.setTop (mkF m 47 #[.val (.ref a1), .val (.int (1 : Int32)), .val (.int (3 : Int32)), .val (.int (((own_b0 x1) &&& (255 : Int32)) ||| (((own_b1 x1) &&& (255 : Int32)) <<< ((8 : Int32) &&& 31))))] [(.ref arr), (.int (((own_b0 x1) &&& (255 : Int32)) ||| (((own_b1 x1) &&& (255 : Int32)) <<< ((8 : Int32) &&& 31))))])) (fun t k => st7 t k) ?_
    refine Goes.st (U' := T7.setTop (mkF m 48 #[.val (.ref a1), .val (.int (1 : Int32)), .val (.int (3 : Int32)), .val (.int (((own_b0 x1) &&& (255 : Int32)) ||| (((own_b1 x1) &&& (255 : Int32)) <<< ((8 : Int32) &&& 31))))] [(.int (3 : Int32)), (.ref arr), (.int (((own_b0 x1) &&& (255 : Int32)) ||| (((own_b1 x1) &&& (255 : Int32)) <<< ((8 : Int32) &&& 31))))])) (fun t k => XS.iloadN X7.here hx rfl (hb hby d4_47) rfl k) ?_
    refine Goes.st (U' := T7.setTop (mkF m 49 #[.val (.ref a1), .val (.int (1 : Int32)), .val (.int (3 : Int32)), .val (.int (((own_b0 x1) &&& (255 : Int32)) ||| (((own_b1 x1) &&& (255 : Int32)) <<< ((8 : Int32) &&& 31))))] [(.int (2 : Int32)), (.int (3 : Int32)), (.ref arr), (.int (((own_b0 x1) &&& (255 : Int32)) ||| (((own_b1 x1) &&& (255 : Int32)) <<< ((8 : Int32) &&& 31))))])) (fun t k => XS.iconst X7.here hx rfl (hb hby d4_48) k) ?_
    refine Goes.st (U' := T7.setTop (mkF m 50 #[.val (.ref a1), .val (.int (1 : Int32)), .val (.int (3 : Int32)), .val (.int (((own_b0 x1) &&& (255 : Int32)) ||| (((own_b1 x1) &&& (255 : Int32)) <<< ((8 : Int32) &&& 31))))] [(.int (5 : Int32)), (.ref arr), (.int (((own_b0 x1) &&& (255 : Int32)) ||| (((own_b1 x1) &&& (255 : Int32)) <<< ((8 : Int32) &&& 31))))])) (fun t k => XS.iadd X7.here hx rfl (hb hby d4_49) rfl k) ?_
    have Vx8 := V_arr
    obtain ⟨cl8, Ar8, qa8, S8, Nn8, H8, G8⟩ := Vx8
    have hin8 : ¬ ((5 : Int32) < 0 ∨ cl8.slots.size ≤ ((5 : Int32)).toNatClampNeg) := inb_of S8 ⟨by decide, by decide⟩
    have hat8 : cl8.slots[((5 : Int32)).toNatClampNeg]? = some (.int (own_b2 x1)) := H8.at hin8 rfl
    refine Goes.st (U' := T7.setTop (mkF m 51 #[.val (.ref a1), .val (.int (1 : Int32)), .val (.int (3 : Int32)), .val (.int (((own_b0 x1) &&& (255 : Int32)) ||| (((own_b1 x1) &&& (255 : Int32)) <<< ((8 : Int32) &&& 31))))] [(.int (own_b2 x1)), (.int (((own_b0 x1) &&& (255 : Int32)) ||| (((own_b1 x1) &&& (255 : Int32)) <<< ((8 : Int32) &&& 31))))])) (fun t k => X7.baloadBytes hx (j := (5 : Int32)) (v := (.int (own_b2 x1))) (by rw [e7]; exact Ar8.1) (State.isArrayOf_alike hZ.alike Ar8.2.1) Ar8.2.2 hin8 hat8 (g := (mkF m 50 #[.val (.ref a1), .val (.int (1 : Int32)), .val (.int (3 : Int32)), .val (.int (((own_b0 x1) &&& (255 : Int32)) ||| (((own_b1 x1) &&& (255 : Int32)) <<< ((8 : Int32) &&& 31))))] [(.int (5 : Int32)), (.ref arr), (.int (((own_b0 x1) &&& (255 : Int32)) ||| (((own_b1 x1) &&& (255 : Int32)) <<< ((8 : Int32) &&& 31))))])) rfl rfl (hb hby d4_50) t k) ?_
    refine Goes.st (U' := T7.setTop (mkF m 53 #[.val (.ref a1), .val (.int (1 : Int32)), .val (.int (3 : Int32)), .val (.int (((own_b0 x1) &&& (255 : Int32)) ||| (((own_b1 x1) &&& (255 : Int32)) <<< ((8 : Int32) &&& 31))))] [(.int (16 : Int32)), (.int (own_b2 x1)), (.int (((own_b0 x1) &&& (255 : Int32)) ||| (((own_b1 x1) &&& (255 : Int32)) <<< ((8 : Int32) &&& 31))))])) (fun t k => XS.bipush X7.here hx rfl (hb hby d4_51) k) ?_
    refine Goes.st (U' := T7.setTop (mkF m 54 #[.val (.ref a1), .val (.int (1 : Int32)), .val (.int (3 : Int32)), .val (.int (((own_b0 x1) &&& (255 : Int32)) ||| (((own_b1 x1) &&& (255 : Int32)) <<< ((8 : Int32) &&& 31))))] [(.int ((own_b2 x1) <<< ((16 : Int32) &&& 31))), (.int (((own_b0 x1) &&& (255 : Int32)) ||| (((own_b1 x1) &&& (255 : Int32)) <<< ((8 : Int32) &&& 31))))])) (fun t k => XS.ishl X7.here hx rfl (hb hby d4_53) rfl k) ?_
    refine Goes.st (U' := T7.setTop (mkF m 55 #[.val (.ref a1), .val (.int (1 : Int32)), .val (.int (3 : Int32)), .val (.int (((own_b0 x1) &&& (255 : Int32)) ||| (((own_b1 x1) &&& (255 : Int32)) <<< ((8 : Int32) &&& 31))))] [(.int ((((own_b0 x1) &&& (255 : Int32)) ||| (((own_b1 x1) &&& (255 : Int32)) <<< ((8 : Int32) &&& 31))) ||| ((own_b2 x1) <<< ((16 : Int32) &&& 31))))])) (fun t k => XS.ior X7.here hx rfl (hb hby d4_54) rfl k) ?_
    refine Goes.st (U' := T7.setTop (mkF m 87 #[.val (.ref a1), .val (.int (1 : Int32)), .val (.int (3 : Int32)), .val (.int (((own_b0 x1) &&& (255 : Int32)) ||| (((own_b1 x1) &&& (255 : Int32)) <<< ((8 : Int32) &&& 31))))] [(.int ((((own_b0 x1) &&& (255 : Int32)) ||| (((own_b1 x1) &&& (255 : Int32)) <<< ((8 : Int32) &&& 31))) ||| ((own_b2 x1) <<< ((16 : Int32) &&& 31))))])) (fun t k => XS.goto X7.here hx rfl (pc0 := 55) (pc' := 87) rfl (hb hby d4_55) (by decide) (by decide) k) ?_
    refine Goes.retI X7 hx (BodyLoose.notSynchronized Bd) Bd.returns (hb hby d4_87) (by decide) (by decide) ?_
    show Q_rmG1 Z a1 (1 : Int32) x0 x1 x2 h0 n0 _ T7.heap _
    rw [e7]
    exact ⟨by rw [own_d3 _ hf1_a1], N0, rfl⟩
  · skip
    obtain ⟨E_a1, F_length_a1, F_bytes_a1, F_width_a1, V_arr, ne_a1_arr⟩ := P
    refine Goes.st (U' := s₁.setTop (mkF m 1 #[.val (.ref a1), .val (.int (1 : Int32)), .unset, .unset] [(.int (1 : Int32))])) (fun t k => XS.iloadN X0.here hx rfl (hb hby d4_0) rfl k) ?_
    refine Goes.st (U' := s₁.setTop (mkF m 2 #[.val (.ref a1), .val (.int (1 : Int32)), .unset, .unset] [(.ref a1), (.int (1 : Int32))])) (fun t k => XS.aloadN X0.here hx rfl (hb hby d4_1) rfl rfl k) ?_
    obtain ⟨T9, X9, e9, st9⟩ := getF X0 hx hZ hown (host := "") (Or.inl (hw _ (List.mem_of_getElem? (i := 18) rfl))) Via.refl e0 F_width_a1 (g := (mkF m 2 #[.val (.ref a1), .val (.int (1 : Int32)), .unset, .unset] [(.ref a1), (.int (1 : Int32))])) rfl rfl (hb hby d4_2)
    refine Goes.st (U' := T9.setTop (mkF m 5 #[.val (.ref a1), .val (.int (1 : Int32)), .unset, .unset] [(.int (4 : Int32)), (.int (1 : Int32))])) (fun t k => st9 t k) ?_
    refine Goes.st (U' := T9.setTop (mkF m 6 #[.val (.ref a1), .val (.int (1 : Int32)), .unset, .unset] [(.int (4 : Int32))])) (fun t k => XS.imul X9.here hx rfl (hb hby d4_5) rfl k) ?_
    refine Goes.st (U' := T9.setTop (mkF m 7 #[.val (.ref a1), .val (.int (1 : Int32)), .val (.int (4 : Int32)), .unset] [])) (fun t k => XS.istoreN X9.here hx rfl (hb hby d4_6) rfl (l' := #[.val (.ref a1), .val (.int (1 : Int32)), .val (.int (4 : Int32)), .unset]) rfl k) ?_
    refine Goes.st (U' := T9.setTop (mkF m 8 #[.val (.ref a1), .val (.int (1 : Int32)), .val (.int (4 : Int32)), .unset] [(.ref a1)])) (fun t k => XS.aloadN X9.here hx rfl (hb hby d4_7) rfl rfl k) ?_
    obtain ⟨T10, X10, e10, st10⟩ := getF X9 hx hZ hown (host := "") (Or.inl (hw _ (List.mem_of_getElem? (i := 16) rfl))) Via.refl e9 F_bytes_a1 (g := (mkF m 8 #[.val (.ref a1), .val (.int (1 : Int32)), .val (.int (4 : Int32)), .unset] [(.ref a1)])) rfl rfl (hb hby d4_8)
    refine Goes.st (U' := T10.setTop (mkF m 11 #[.val (.ref a1), .val (.int (1 : Int32)), .val (.int (4 : Int32)), .unset] [(.ref arr)])) (fun t k => st10 t k) ?_
    refine Goes.st (U' := T10.setTop (mkF m 12 #[.val (.ref a1), .val (.int (1 : Int32)), .val (.int (4 : Int32)), .unset] [(.int (4 : Int32)), (.ref arr)])) (fun t k => XS.iloadN X10.here hx rfl (hb hby d4_11) rfl k) ?_
    have Vx11 := V_arr
    obtain ⟨cl11, Ar11, qa11, S11, Nn11, H11, G11⟩ := Vx11
    have hin11 : ¬ ((4 : Int32) < 0 ∨ cl11.slots.size ≤ ((4 : Int32)).toNatClampNeg) := inb_of S11 ⟨by decide, by decide⟩
    have hat11 : cl11.slots[((4 : Int32)).toNatClampNeg]? = some (.int (own_b0 x1)) := H11.at hin11 rfl
    refine Goes.st (U' := T10.setTop (mkF m 13 #[.val (.ref a1), .val (.int (1 : Int32)), .val (.int (4 : Int32)), .unset] [(.int (own_b0 x1))])) (fun t k => X10.baloadBytes hx (j := (4 : Int32)) (v := (.int (own_b0 x1))) (by rw [e10]; exact Ar11.1) (State.isArrayOf_alike hZ.alike Ar11.2.1) Ar11.2.2 hin11 hat11 (g := (mkF m 12 #[.val (.ref a1), .val (.int (1 : Int32)), .val (.int (4 : Int32)), .unset] [(.int (4 : Int32)), (.ref arr)])) rfl rfl (hb hby d4_12) t k) ?_
    refine Goes.st (U' := T10.setTop (mkF m 16 #[.val (.ref a1), .val (.int (1 : Int32)), .val (.int (4 : Int32)), .unset] [(.int (255 : Int32)), (.int (own_b0 x1))])) (fun t k => XS.sipush X10.here hx rfl (hb hby d4_13) k) ?_
    refine Goes.st (U' := T10.setTop (mkF m 17 #[.val (.ref a1), .val (.int (1 : Int32)), .val (.int (4 : Int32)), .unset] [(.int ((own_b0 x1) &&& (255 : Int32)))])) (fun t k => XS.iand X10.here hx rfl (hb hby d4_16) rfl k) ?_
    refine Goes.st (U' := T10.setTop (mkF m 18 #[.val (.ref a1), .val (.int (1 : Int32)), .val (.int (4 : Int32)), .unset] [(.ref a1), (.int ((own_b0 x1) &&& (255 : Int32)))])) (fun t k => XS.aloadN X10.here hx rfl (hb hby d4_17) rfl rfl k) ?_
    obtain ⟨T12, X12, e12, st12⟩ := getF X10 hx hZ hown (host := "") (Or.inl (hw _ (List.mem_of_getElem? (i := 16) rfl))) Via.refl e10 F_bytes_a1 (g := (mkF m 18 #[.val (.ref a1), .val (.int (1 : Int32)), .val (.int (4 : Int32)), .unset] [(.ref a1), (.int ((own_b0 x1) &&& (255 : Int32)))])) rfl rfl (hb hby d4_18)
    refine Goes.st (U' := T12.setTop (mkF m 21 #[.val (.ref a1), .val (.int (1 : Int32)), .val (.int (4 : Int32)), .unset] [(.ref arr), (.int ((own_b0 x1) &&& (255 : Int32)))])) (fun t k => st12 t k) ?_
    refine Goes.st (U' := T12.setTop (mkF m 22 #[.val (.ref a1), .val (.int (1 : Int32)), .val (.int (4 : Int32)), .unset] [(.int (4 : Int32)), (.ref arr), (.int ((own_b0 x1) &&& (255 : Int32)))])) (fun t k => XS.iloadN X12.here hx rfl (hb hby d4_21) rfl k) ?_
    refine Goes.st (U' := T12.setTop (mkF m 23 #[.val (.ref a1), .val (.int (1 : Int32)), .val (.int (4 : Int32)), .unset] [(.int (1 : Int32)), (.int (4 : Int32)), (.ref arr), (.int ((own_b0 x1) &&& (255 : Int32)))])) (fun t k => XS.iconst X12.here hx rfl (hb hby d4_22) k) ?_
    refine Goes.st (U' := T12.setTop (mkF m 24 #[.val (.ref a1), .val (.int (1 : Int32)), .val (.int (4 : Int32)), .unset] [(.int (5 : Int32)), (.ref arr), (.int ((own_b0 x1) &&& (255 : Int32)))])) (fun t k => XS.iadd X12.here hx rfl (hb hby d4_23) rfl k) ?_
    have Vx13 := V_arr
    obtain ⟨cl13, Ar13, qa13, S13, Nn13, H13, G13⟩ := Vx13
    have hin13 : ¬ ((5 : Int32) < 0 ∨ cl13.slots.size ≤ ((5 : Int32)).toNatClampNeg) := inb_of S13 ⟨by decide, by decide⟩
    have hat13 : cl13.slots[((5 : Int32)).toNatClampNeg]? = some (.int (own_b1 x1)) := H13.at hin13 rfl
    refine Goes.st (U' := T12.setTop (mkF m 25 #[.val (.ref a1), .val (.int (1 : Int32)), .val (.int (4 : Int32)), .unset] [(.int (own_b1 x1)), (.int ((own_b0 x1) &&& (255 : Int32)))])) (fun t k => X12.baloadBytes hx (j := (5 : Int32)) (v := (.int (own_b1 x1))) (by rw [e12]; exact Ar13.1) (State.isArrayOf_alike hZ.alike Ar13.2.1) Ar13.2.2 hin13 hat13 (g := (mkF m 24 #[.val (.ref a1), .val (.int (1 : Int32)), .val (.int (4 : Int32)), .unset] [(.int (5 : Int32)), (.ref arr), (.int ((own_b0 x1) &&& (255 : Int32)))])) rfl rfl (hb hby d4_24) t k) ?_
    refine Goes.st (U' := T12.setTop (mkF m 28 #[.val (.ref a1), .val (.int (1 : Int32)), .val (.int (4 : Int32)), .unset] [(.int (255 : Int32)), (.int (own_b1 x1)), (.int ((own_b0 x1) &&& (255 : Int32)))])) (fun t k => XS.sipush X12.here hx rfl (hb hby d4_25) k) ?_
    refine Goes.st (U' := T12.setTop (mkF m 29 #[.val (.ref a1), .val (.int (1 : Int32)), .val (.int (4 : Int32)), .unset] [(.int ((own_b1 x1) &&& (255 : Int32))), (.int ((own_b0 x1) &&& (255 : Int32)))])) (fun t k => XS.iand X12.here hx rfl (hb hby d4_28) rfl k) ?_
    refine Goes.st (U' := T12.setTop (mkF m 31 #[.val (.ref a1), .val (.int (1 : Int32)), .val (.int (4 : Int32)), .unset] [(.int (8 : Int32)), (.int ((own_b1 x1) &&& (255 : Int32))), (.int ((own_b0 x1) &&& (255 : Int32)))])) (fun t k => XS.bipush X12.here hx rfl (hb hby d4_29) k) ?_
    refine Goes.st (U' := T12.setTop (mkF m 32 #[.val (.ref a1), .val (.int (1 : Int32)), .val (.int (4 : Int32)), .unset] [(.int (((own_b1 x1) &&& (255 : Int32)) <<< ((8 : Int32) &&& 31))), (.int ((own_b0 x1) &&& (255 : Int32)))])) (fun t k => XS.ishl X12.here hx rfl (hb hby d4_31) rfl k) ?_
    refine Goes.st (U' := T12.setTop (mkF m 33 #[.val (.ref a1), .val (.int (1 : Int32)), .val (.int (4 : Int32)), .unset] [(.int (((own_b0 x1) &&& (255 : Int32)) ||| (((own_b1 x1) &&& (255 : Int32)) <<< ((8 : Int32) &&& 31))))])) (fun t k => XS.ior X12.here hx rfl (hb hby d4_32) rfl k) ?_
    refine Goes.st (U' := T12.setTop (mkF m 34 #[.val (.ref a1), .val (.int (1 : Int32)), .val (.int (4 : Int32)), .val (.int (((own_b0 x1) &&& (255 : Int32)) ||| (((own_b1 x1) &&& (255 : Int32)) <<< ((8 : Int32) &&& 31))))] [])) (fun t k => XS.istoreN X12.here hx rfl (hb hby d4_33) rfl (l' := #[.val (.ref a1), .val (.int (1 : Int32)), .val (.int (4 : Int32)), .val (.int (((own_b0 x1) &&& (255 : Int32)) ||| (((own_b1 x1) &&& (255 : Int32)) <<< ((8 : Int32) &&& 31))))]) rfl k) ?_
    refine Goes.st (U' := T12.setTop (mkF m 35 #[.val (.ref a1), .val (.int (1 : Int32)), .val (.int (4 : Int32)), .val (.int (((own_b0 x1) &&& (255 : Int32)) ||| (((own_b1 x1) &&& (255 : Int32)) <<< ((8 : Int32) &&& 31))))] [(.ref a1)])) (fun t k => XS.aloadN X12.here hx rfl (hb hby d4_34) rfl rfl k) ?_
    obtain ⟨T14, X14, e14, st14⟩ := getF X12 hx hZ hown (host := "") (Or.inl (hw _ (List.mem_of_getElem? (i := 18) rfl))) Via.refl e12 F_width_a1 (g := (mkF m 35 #[.val (.ref a1), .val (.int (1 : Int32)), .val (.int (4 : Int32)), .val (.int (((own_b0 x1) &&& (255 : Int32)) ||| (((own_b1 x1) &&& (255 : Int32)) <<< ((8 : Int32) &&& 31))))] [(.ref a1)])) rfl rfl (hb hby d4_35)
    refine Goes.st (U' := T14.setTop (mkF m 38 #[.val (.ref a1), .val (.int (1 : Int32)), .val (.int (4 : Int32)), .val (.int (((own_b0 x1) &&& (255 : Int32)) ||| (((own_b1 x1) &&& (255 : Int32)) <<< ((8 : Int32) &&& 31))))] [(.int (4 : Int32))])) (fun t k => st14 t k) ?_
    refine Goes.st (U' := T14.setTop (mkF m 39 #[.val (.ref a1), .val (.int (1 : Int32)), .val (.int (4 : Int32)), .val (.int (((own_b0 x1) &&& (255 : Int32)) ||| (((own_b1 x1) &&& (255 : Int32)) <<< ((8 : Int32) &&& 31))))] [(.int (3 : Int32)), (.int (4 : Int32))])) (fun t k => XS.iconst X14.here hx rfl (hb hby d4_38) k) ?_
    refine Goes.st (U' := T14.setTop (mkF m 58 #[.val (.ref a1), .val (.int (1 : Int32)), .val (.int (4 : Int32)), .val (.int (((own_b0 x1) &&& (255 : Int32)) ||| (((own_b1 x1) &&& (255 : Int32)) <<< ((8 : Int32) &&& 31))))] [])) (fun t k => XS.icmpYes X14.here hx rfl (pc0 := 39) (pc' := 58) rfl (hb hby d4_39) rfl (feq (by decide : ¬ ((4 : Int32) = (3 : Int32)))).2 (by decide) (by decide) k) ?_
    refine Goes.st (U' := T14.setTop (mkF m 59 #[.val (.ref a1), .val (.int (1 : Int32)), .val (.int (4 : Int32)), .val (.int (((own_b0 x1) &&& (255 : Int32)) ||| (((own_b1 x1) &&& (255 : Int32)) <<< ((8 : Int32) &&& 31))))] [(.int (((own_b0 x1) &&& (255 : Int32)) ||| (((own_b1 x1) &&& (255 : Int32)) <<< ((8 : Int32) &&& 31))))])) (fun t k => XS.iloadN X14.here hx rfl (hb hby d4_58) rfl k) ?_
    refine Goes.st (U' := T14.setTop (mkF m 60 #[.val (.ref a1), .val (.int (1 : Int32)), .val (.int (4 : Int32)), .val (.int (((own_b0 x1) &&& (255 : Int32)) ||| (((own_b1 x1) &&& (255 : Int32)) <<< ((8 : Int32) &&& 31))))] [(.ref a1), (.int (((own_b0 x1) &&& (255 : Int32)) ||| (((own_b1 x1) &&& (255 : Int32)) <<< ((8 : Int32) &&& 31))))])) (fun t k => XS.aloadN X14.here hx rfl (hb hby d4_59) rfl rfl k) ?_
    obtain ⟨T15, X15, e15, st15⟩ := getF X14 hx hZ hown (host := "") (Or.inl (hw _ (List.mem_of_getElem? (i := 16) rfl))) Via.refl e14 F_bytes_a1 (g := (mkF m 60 #[.val (.ref a1), .val (.int (1 : Int32)), .val (.int (4 : Int32)), .val (.int (((own_b0 x1) &&& (255 : Int32)) ||| (((own_b1 x1) &&& (255 : Int32)) <<< ((8 : Int32) &&& 31))))] [(.ref a1), (.int (((own_b0 x1) &&& (255 : Int32)) ||| (((own_b1 x1) &&& (255 : Int32)) <<< ((8 : Int32) &&& 31))))])) rfl rfl (hb hby d4_60)
    refine Goes.st (U' := T15.setTop (mkF m 63 #[.val (.ref a1), .val (.int (1 : Int32)), .val (.int (4 : Int32)), .val (.int (((own_b0 x1) &&& (255 : Int32)) ||| (((own_b1 x1) &&& (255 : Int32)) <<< ((8 : Int32) &&& 31))))] [(.ref arr), (.int (((own_b0 x1) &&& (255 : Int32)) ||| (((own_b1 x1) &&& (255 : Int32)) <<< ((8 : Int32) &&& 31))))])) (fun t k => st15 t k) ?_
    refine Goes.st (U' := T15.setTop (mkF m 64 #[.val (.ref a1), .val (.int (1 : Int32)), .val (.int (4 : Int32)), .val (.int (((own_b0 x1) &&& (255 : Int32)) ||| (((own_b1 x1) &&& (255 : Int32)) <<< ((8 : Int32) &&& 31))))] [(.int (4 : Int32)), (.ref arr), (.int (((own_b0 x1) &&& (255 : Int32)) ||| (((own_b1 x1) &&& (255 : Int32)) <<< ((8 : Int32) &&& 31))))])) (fun t k => XS.iloadN X15.here hx rfl (hb hby d4_63) rfl k) ?_
    refine Goes.st (U' := T15.setTop (mkF m 65 #[.val (.ref a1), .val (.int (1 : Int32)), .val (.int (4 : Int32)), .val (.int (((own_b0 x1) &&& (255 : Int32)) ||| (((own_b1 x1) &&& (255 : Int32)) <<< ((8 : Int32) &&& 31))))] [(.int (2 : Int32)), (.int (4 : Int32)), (.ref arr), (.int (((own_b0 x1) &&& (255 : Int32)) ||| (((own_b1 x1) &&& (255 : Int32)) <<< ((8 : Int32) &&& 31))))])) (fun t k => XS.iconst X15.here hx rfl (hb hby d4_64) k) ?_
    refine Goes.st (U' := T15.setTop (mkF m 66 #[.val (.ref a1), .val (.int (1 : Int32)), .val (.int (4 : Int32)), .val (.int (((own_b0 x1) &&& (255 : Int32)) ||| (((own_b1 x1) &&& (255 : Int32)) <<< ((8 : Int32) &&& 31))))] [(.int (6 : Int32)), (.ref arr), (.int (((own_b0 x1) &&& (255 : Int32)) ||| (((own_b1 x1) &&& (255 : Int32)) <<< ((8 : Int32) &&& 31))))])) (fun t k => XS.iadd X15.here hx rfl (hb hby d4_65) rfl k) ?_
    have Vx16 := V_arr
    obtain ⟨cl16, Ar16, qa16, S16, Nn16, H16, G16⟩ := Vx16
    have hin16 : ¬ ((6 : Int32) < 0 ∨ cl16.slots.size ≤ ((6 : Int32)).toNatClampNeg) := inb_of S16 ⟨by decide, by decide⟩
    have hat16 : cl16.slots[((6 : Int32)).toNatClampNeg]? = some (.int (own_b2 x1)) := H16.at hin16 rfl
    refine Goes.st (U' := T15.setTop (mkF m 67 #[.val (.ref a1), .val (.int (1 : Int32)), .val (.int (4 : Int32)), .val (.int (((own_b0 x1) &&& (255 : Int32)) ||| (((own_b1 x1) &&& (255 : Int32)) <<< ((8 : Int32) &&& 31))))] [(.int (own_b2 x1)), (.int (((own_b0 x1) &&& (255 : Int32)) ||| (((own_b1 x1) &&& (255 : Int32)) <<< ((8 : Int32) &&& 31))))])) (fun t k => X15.baloadBytes hx (j := (6 : Int32)) (v := (.int (own_b2 x1))) (by rw [e15]; exact Ar16.1) (State.isArrayOf_alike hZ.alike Ar16.2.1) Ar16.2.2 hin16 hat16 (g := (mkF m 66 #[.val (.ref a1), .val (.int (1 : Int32)), .val (.int (4 : Int32)), .val (.int (((own_b0 x1) &&& (255 : Int32)) ||| (((own_b1 x1) &&& (255 : Int32)) <<< ((8 : Int32) &&& 31))))] [(.int (6 : Int32)), (.ref arr), (.int (((own_b0 x1) &&& (255 : Int32)) ||| (((own_b1 x1) &&& (255 : Int32)) <<< ((8 : Int32) &&& 31))))])) rfl rfl (hb hby d4_66) t k) ?_
    refine Goes.st (U' := T15.setTop (mkF m 70 #[.val (.ref a1), .val (.int (1 : Int32)), .val (.int (4 : Int32)), .val (.int (((own_b0 x1) &&& (255 : Int32)) ||| (((own_b1 x1) &&& (255 : Int32)) <<< ((8 : Int32) &&& 31))))] [(.int (255 : Int32)), (.int (own_b2 x1)), (.int (((own_b0 x1) &&& (255 : Int32)) ||| (((own_b1 x1) &&& (255 : Int32)) <<< ((8 : Int32) &&& 31))))])) (fun t k => XS.sipush X15.here hx rfl (hb hby d4_67) k) ?_
    refine Goes.st (U' := T15.setTop (mkF m 71 #[.val (.ref a1), .val (.int (1 : Int32)), .val (.int (4 : Int32)), .val (.int (((own_b0 x1) &&& (255 : Int32)) ||| (((own_b1 x1) &&& (255 : Int32)) <<< ((8 : Int32) &&& 31))))] [(.int ((own_b2 x1) &&& (255 : Int32))), (.int (((own_b0 x1) &&& (255 : Int32)) ||| (((own_b1 x1) &&& (255 : Int32)) <<< ((8 : Int32) &&& 31))))])) (fun t k => XS.iand X15.here hx rfl (hb hby d4_70) rfl k) ?_
    refine Goes.st (U' := T15.setTop (mkF m 73 #[.val (.ref a1), .val (.int (1 : Int32)), .val (.int (4 : Int32)), .val (.int (((own_b0 x1) &&& (255 : Int32)) ||| (((own_b1 x1) &&& (255 : Int32)) <<< ((8 : Int32) &&& 31))))] [(.int (16 : Int32)), (.int ((own_b2 x1) &&& (255 : Int32))), (.int (((own_b0 x1) &&& (255 : Int32)) ||| (((own_b1 x1) &&& (255 : Int32)) <<< ((8 : Int32) &&& 31))))])) (fun t k => XS.bipush X15.here hx rfl (hb hby d4_71) k) ?_
    refine Goes.st (U' := T15.setTop (mkF m 74 #[.val (.ref a1), .val (.int (1 : Int32)), .val (.int (4 : Int32)), .val (.int (((own_b0 x1) &&& (255 : Int32)) ||| (((own_b1 x1) &&& (255 : Int32)) <<< ((8 : Int32) &&& 31))))] [(.int (((own_b2 x1) &&& (255 : Int32)) <<< ((16 : Int32) &&& 31))), (.int (((own_b0 x1) &&& (255 : Int32)) ||| (((own_b1 x1) &&& (255 : Int32)) <<< ((8 : Int32) &&& 31))))])) (fun t k => XS.ishl X15.here hx rfl (hb hby d4_73) rfl k) ?_
    refine Goes.st (U' := T15.setTop (mkF m 75 #[.val (.ref a1), .val (.int (1 : Int32)), .val (.int (4 : Int32)), .val (.int (((own_b0 x1) &&& (255 : Int32)) ||| (((own_b1 x1) &&& (255 : Int32)) <<< ((8 : Int32) &&& 31))))] [(.int ((((own_b0 x1) &&& (255 : Int32)) ||| (((own_b1 x1) &&& (255 : Int32)) <<< ((8 : Int32) &&& 31))) ||| (((own_b2 x1) &&& (255 : Int32)) <<< ((16 : Int32) &&& 31))))])) (fun t k => XS.ior X15.here hx rfl (hb hby d4_74) rfl k) ?_
    refine Goes.st (U' := T15.setTop (mkF m 76 #[.val (.ref a1), .val (.int (1 : Int32)), .val (.int (4 : Int32)), .val (.int (((own_b0 x1) &&& (255 : Int32)) ||| (((own_b1 x1) &&& (255 : Int32)) <<< ((8 : Int32) &&& 31))))] [(.ref a1), (.int ((((own_b0 x1) &&& (255 : Int32)) ||| (((own_b1 x1) &&& (255 : Int32)) <<< ((8 : Int32) &&& 31))) ||| (((own_b2 x1) &&& (255 : Int32)) <<< ((16 : Int32) &&& 31))))])) (fun t k => XS.aloadN X15.here hx rfl (hb hby d4_75) rfl rfl k) ?_
    obtain ⟨T17, X17, e17, st17⟩ := getF X15 hx hZ hown (host := "") (Or.inl (hw _ (List.mem_of_getElem? (i := 16) rfl))) Via.refl e15 F_bytes_a1 (g := (mkF m 76 #[.val (.ref a1), .val (.int (1 : Int32)), .val (.int (4 : Int32)), .val (.int (((own_b0 x1) &&& (255 : Int32)) ||| (((own_b1 x1) &&& (255 : Int32)) <<< ((8 : Int32) &&& 31))))] [(.ref a1), (.int ((((own_b0 x1) &&& (255 : Int32)) ||| (((own_b1 x1) &&& (255 : Int32)) <<< ((8 : Int32) &&& 31))) ||| (((own_b2 x1) &&& (255 : Int32)) <<< ((16 : Int32) &&& 31))))])) rfl rfl (hb hby d4_76)
    refine Goes.st (U' := T17.setTop (mkF m 79 #[.val (.ref a1), .val (.int (1 : Int32)), .val (.int (4 : Int32)), .val (.int (((own_b0 x1) &&& (255 : Int32)) ||| (((own_b1 x1) &&& (255 : Int32)) <<< ((8 : Int32) &&& 31))))] [(.ref arr), (.int ((((own_b0 x1) &&& (255 : Int32)) ||| (((own_b1 x1) &&& (255 : Int32)) <<< ((8 : Int32) &&& 31))) ||| (((own_b2 x1) &&& (255 : Int32)) <<< ((16 : Int32) &&& 31))))])) (fun t k => st17 t k) ?_
    refine Goes.st (U' := T17.setTop (mkF m 80 #[.val (.ref a1), .val (.int (1 : Int32)), .val (.int (4 : Int32)), .val (.int (((own_b0 x1) &&& (255 : Int32)) ||| (((own_b1 x1) &&& (255 : Int32)) <<< ((8 : Int32) &&& 31))))] [(.int (4 : Int32)), (.ref arr), (.int ((((own_b0 x1) &&& (255 : Int32)) ||| (((own_b1 x1) &&& (255 : Int32)) <<< ((8 : Int32) &&& 31))) ||| (((own_b2 x1) &&& (255 : Int32)) <<< ((16 : Int32) &&& 31))))])) (fun t k => XS.iloadN X17.here hx rfl (hb hby d4_79) rfl k) ?_
    refine Goes.st (U' := T17.setTop (mkF m 81 #[.val (.ref a1), .val (.int (1 : Int32)), .val (.int (4 : Int32)), .val (.int (((own_b0 x1) &&& (255 : Int32)) ||| (((own_b1 x1) &&& (255 : Int32)) <<< ((8 : Int32) &&& 31))))] [(.int (3 : Int32)), (.int (4 : Int32)), (.ref arr), (.int ((((own_b0 x1) &&& (255 : Int32)) ||| (((own_b1 x1) &&& (255 : Int32)) <<< ((8 : Int32) &&& 31))) ||| (((own_b2 x1) &&& (255 : Int32)) <<< ((16 : Int32) &&& 31))))])) (fun t k => XS.iconst X17.here hx rfl (hb hby d4_80) k) ?_
    refine Goes.st (U' := T17.setTop (mkF m 82 #[.val (.ref a1), .val (.int (1 : Int32)), .val (.int (4 : Int32)), .val (.int (((own_b0 x1) &&& (255 : Int32)) ||| (((own_b1 x1) &&& (255 : Int32)) <<< ((8 : Int32) &&& 31))))] [(.int (7 : Int32)), (.ref arr), (.int ((((own_b0 x1) &&& (255 : Int32)) ||| (((own_b1 x1) &&& (255 : Int32)) <<< ((8 : Int32) &&& 31))) ||| (((own_b2 x1) &&& (255 : Int32)) <<< ((16 : Int32) &&& 31))))])) (fun t k => XS.iadd X17.here hx rfl (hb hby d4_81) rfl k) ?_
    have Vx18 := V_arr
    obtain ⟨cl18, Ar18, qa18, S18, Nn18, H18, G18⟩ := Vx18
    have hin18 : ¬ ((7 : Int32) < 0 ∨ cl18.slots.size ≤ ((7 : Int32)).toNatClampNeg) := inb_of S18 ⟨by decide, by decide⟩
    have hat18 : cl18.slots[((7 : Int32)).toNatClampNeg]? = some (.int (own_b3 x1)) := H18.at hin18 rfl
    refine Goes.st (U' := T17.setTop (mkF m 83 #[.val (.ref a1), .val (.int (1 : Int32)), .val (.int (4 : Int32)), .val (.int (((own_b0 x1) &&& (255 : Int32)) ||| (((own_b1 x1) &&& (255 : Int32)) <<< ((8 : Int32) &&& 31))))] [(.int (own_b3 x1)), (.int ((((own_b0 x1) &&& (255 : Int32)) ||| (((own_b1 x1) &&& (255 : Int32)) <<< ((8 : Int32) &&& 31))) ||| (((own_b2 x1) &&& (255 : Int32)) <<< ((16 : Int32) &&& 31))))])) (fun t k => X17.baloadBytes hx (j := (7 : Int32)) (v := (.int (own_b3 x1))) (by rw [e17]; exact Ar18.1) (State.isArrayOf_alike hZ.alike Ar18.2.1) Ar18.2.2 hin18 hat18 (g := (mkF m 82 #[.val (.ref a1), .val (.int (1 : Int32)), .val (.int (4 : Int32)), .val (.int (((own_b0 x1) &&& (255 : Int32)) ||| (((own_b1 x1) &&& (255 : Int32)) <<< ((8 : Int32) &&& 31))))] [(.int (7 : Int32)), (.ref arr), (.int ((((own_b0 x1) &&& (255 : Int32)) ||| (((own_b1 x1) &&& (255 : Int32)) <<< ((8 : Int32) &&& 31))) ||| (((own_b2 x1) &&& (255 : Int32)) <<< ((16 : Int32) &&& 31))))])) rfl rfl (hb hby d4_82) t k) ?_
    refine Goes.st (U' := T17.setTop (mkF m 85 #[.val (.ref a1), .val (.int (1 : Int32)), .val (.int (4 : Int32)), .val (.int (((own_b0 x1) &&& (255 : Int32)) ||| (((own_b1 x1) &&& (255 : Int32)) <<< ((8 : Int32) &&& 31))))] [(.int (24 : Int32)), (.int (own_b3 x1)), (.int ((((own_b0 x1) &&& (255 : Int32)) ||| (((own_b1 x1) &&& (255 : Int32)) <<< ((8 : Int32) &&& 31))) ||| (((own_b2 x1) &&& (255 : Int32)) <<< ((16 : Int32) &&& 31))))])) (fun t k => XS.bipush X17.here hx rfl (hb hby d4_83) k) ?_
    refine Goes.st (U' := T17.setTop (mkF m 86 #[.val (.ref a1), .val (.int (1 : Int32)), .val (.int (4 : Int32)), .val (.int (((own_b0 x1) &&& (255 : Int32)) ||| (((own_b1 x1) &&& (255 : Int32)) <<< ((8 : Int32) &&& 31))))] [(.int ((own_b3 x1) <<< ((24 : Int32) &&& 31))), (.int ((((own_b0 x1) &&& (255 : Int32)) ||| (((own_b1 x1) &&& (255 : Int32)) <<< ((8 : Int32) &&& 31))) ||| (((own_b2 x1) &&& (255 : Int32)) <<< ((16 : Int32) &&& 31))))])) (fun t k => XS.ishl X17.here hx rfl (hb hby d4_85) rfl k) ?_
    refine Goes.st (U' := T17.setTop (mkF m 87 #[.val (.ref a1), .val (.int (1 : Int32)), .val (.int (4 : Int32)), .val (.int (((own_b0 x1) &&& (255 : Int32)) ||| (((own_b1 x1) &&& (255 : Int32)) <<< ((8 : Int32) &&& 31))))] [(.int (((((own_b0 x1) &&& (255 : Int32)) ||| (((own_b1 x1) &&& (255 : Int32)) <<< ((8 : Int32) &&& 31))) ||| (((own_b2 x1) &&& (255 : Int32)) <<< ((16 : Int32) &&& 31))) ||| ((own_b3 x1) <<< ((24 : Int32) &&& 31))))])) (fun t k => XS.ior X17.here hx rfl (hb hby d4_86) rfl k) ?_
    refine Goes.retI X17 hx (BodyLoose.notSynchronized Bd) Bd.returns (hb hby d4_87) (by decide) (by decide) ?_
    show Q_rmG1 Z a1 (1 : Int32) x0 x1 x2 h0 n0 _ T17.heap _
    rw [e17]
    exact ⟨by rw [own_d4], N0, rfl⟩
theorem ef_rmG2 (m : MethodId) (a1 : Addr) (p2 : Int32) : entryFrame m #[(.ref a1), (.int p2)] 4 = mkF m 0 #[.val (.ref a1), .val (.int p2), .unset, .unset] [] := by first | (simp [entryFrame, mkF, argsToLocals, Value.category]; done) | rfl
def Q_rmG2 (Z : State) (a1 : Addr) (p2 : Int32) (x0 : Int32) (x1 : Int32) (x2 : Int32) (h0 : Heap) (n0 : Nat) (v : Option Value) (h : Heap) (L : List Loc) : Prop := v = some (.int x2) ∧ Fr n0 L ∧ h = h0
set_option maxRecDepth 65536 in
set_option maxHeartbeats 40000000 in
theorem rmG2 (l : Launch) (Z : State) (a0 : Array Value) (hw : ∀ d ∈ tables_1, d.before a0 Z = true) (ws : List Jvm.Cond) (a1 : Addr) (p2 : Int32) (x0 : Int32) (x1 : Int32) (x2 : Int32) (h0 : Heap) (n0 : Nat) (Z0 : n0 ≤ h0.size) (I : PI Z h0 a1 n0 x0 x1 x2) (e2 : p2 = (2 : Int32)) :
    MetFree l (⟨"com/example/chaise/chaise/core/PackedInts", "get", "(I)I"⟩ : MethodName) (head1 (Jvm.Cond.code (⟨"com/example/chaise/chaise/core/PackedInts", "get", "(I)I"⟩ : MethodName) prog_81_method_5_code 4 (some .int) :: ws) ({ frames := 0, cells := 0, slots := 0, locals := 0 } : Room)) (fun a U => a = #[(.ref a1), (.int p2)] ∧ Z.Warmed39 U.vm ∧ U.heap = h0) (fun _ _ _ _ _ => True) (fun _ U o U' => ∃ v L, o = .returned v ∧ Q_rmG2 Z a1 (2 : Int32) x0 x1 x2 h0 n0 v U'.heap L ∧ FrameEnd U o U' L ({ frames := 0, cells := 0, slots := 0, locals := 0 } : Room).cells ({ frames := 0, cells := 0, slots := 0, locals := 0 } : Room).slots) := by
  refine MetFree.of_bodySF (plainFor_of_name pn_0) hisR ?_
  intro p e s m args below meth c s₁ Bd hml0 hP hK
  obtain ⟨rfl, hZ, hh⟩ := hP
  have hx := Bd.exec
  have hby := Bd.bytes
  have hml : c.maxLocals = 4 := hml0
  have hown : s.vm.findClass "com/example/chaise/chaise/core/PackedInts" = some m.cls := findClass_of_methodNamed Bd.named
  have hnm := (name_of_methodNamed Bd.named Bd.method).1
  have X0 : Stand p l e ({ frames := 0, cells := 0, slots := 0, locals := 0 } : Room) s m #[(.ref a1), (.int p2)] below meth c s₁ [] 0 0 := Stand.of_body Bd
  have e0 : s₁.heap = h0 := by rw [← hh, Bd.state]; rfl
  have N0 := Fr.nil n0
  show Goes p e s below (fun v h L => Q_rmG2 Z a1 (2 : Int32) x0 x1 x2 h0 n0 v h L) ({ frames := 0, cells := 0, slots := 0, locals := 0 } : Room).cells ({ frames := 0, cells := 0, slots := 0, locals := 0 } : Room).slots (s₁.setTop (entryFrame m #[(.ref a1), (.int p2)] 4))
  refine Goes.st (U' := s₁.setTop (mkF m 0 #[.val (.ref a1), .val (.int p2), .unset, .unset] [])) (fun t k => castTop (ef_rmG2 m a1 p2) k) ?_
  subst e2
  rcases I with ⟨arr, k, P, g_arr⟩ | ⟨arr, k, P, g_arr⟩
  · skip
    obtain ⟨E_a1, F_length_a1, F_bytes_a1, F_width_a1, V_arr, ne_a1_arr, hf0_a1, hf1_a1, hf2_a1⟩ := P
    refine Goes.st (U' := s₁.setTop (mkF m 1 #[.val (.ref a1), .val (.int (2 : Int32)), .unset, .unset] [(.int (2 : Int32))])) (fun t k => XS.iloadN X0.here hx rfl (hb hby d4_0) rfl k) ?_
    refine Goes.st (U' := s₁.setTop (mkF m 2 #[.val (.ref a1), .val (.int (2 : Int32)), .unset, .unset] [(.ref a1), (.int (2 : Int32))])) (fun t k => XS.aloadN X0.here hx rfl (hb hby d4_1) rfl rfl k) ?_
    obtain ⟨T1, X1, e1, st1⟩ := getF X0 hx hZ hown (host := "") (Or.inl (hw _ (List.mem_of_getElem? (i := 18) rfl))) Via.refl e0 F_width_a1 (g := (mkF m 2 #[.val (.ref a1), .val (.int (2 : Int32)), .unset, .unset] [(.ref a1), (.int (2 : Int32))])) rfl rfl (hb hby d4_2)
    refine Goes.st (U' := T1.setTop (mkF m 5 #[.val (.ref a1), .val (.int (2 : Int32)), .unset, .unset] [(.int (3 : Int32)), (.int (2 : Int32))])) (fun t k => st1 t k) ?_
    refine Goes.st (U' := T1.setTop (mkF m 6 #[.val (.ref a1), .val (.int (2 : Int32)), .unset, .unset] [(.int (6 : Int32))])) (fun t k => XS.imul X1.here hx rfl (hb hby d4_5) rfl k) ?_
    refine Goes.st (U' := T1.setTop (mkF m 7 #[.val (.ref a1), .val (.int (2 : Int32)), .val (.int (6 : Int32)), .unset] [])) (fun t k => XS.istoreN X1.here hx rfl (hb hby d4_6) rfl (l' := #[.val (.ref a1), .val (.int (2 : Int32)), .val (.int (6 : Int32)), .unset]) rfl k) ?_
    refine Goes.st (U' := T1.setTop (mkF m 8 #[.val (.ref a1), .val (.int (2 : Int32)), .val (.int (6 : Int32)), .unset] [(.ref a1)])) (fun t k => XS.aloadN X1.here hx rfl (hb hby d4_7) rfl rfl k) ?_
    obtain ⟨T2, X2, e2, st2⟩ := getF X1 hx hZ hown (host := "") (Or.inl (hw _ (List.mem_of_getElem? (i := 16) rfl))) Via.refl e1 F_bytes_a1 (g := (mkF m 8 #[.val (.ref a1), .val (.int (2 : Int32)), .val (.int (6 : Int32)), .unset] [(.ref a1)])) rfl rfl (hb hby d4_8)
    refine Goes.st (U' := T2.setTop (mkF m 11 #[.val (.ref a1), .val (.int (2 : Int32)), .val (.int (6 : Int32)), .unset] [(.ref arr)])) (fun t k => st2 t k) ?_
    refine Goes.st (U' := T2.setTop (mkF m 12 #[.val (.ref a1), .val (.int (2 : Int32)), .val (.int (6 : Int32)), .unset] [(.int (6 : Int32)), (.ref arr)])) (fun t k => XS.iloadN X2.here hx rfl (hb hby d4_11) rfl k) ?_
    have Vx3 := V_arr
    obtain ⟨cl3, Ar3, qa3, S3, Nn3, H3, G3⟩ := Vx3
    have hin3 : ¬ ((6 : Int32) < 0 ∨ cl3.slots.size ≤ ((6 : Int32)).toNatClampNeg) := inb_of S3 ⟨by decide, by decide⟩
    have hat3 : cl3.slots[((6 : Int32)).toNatClampNeg]? = some (.int (own_b0 x2)) := H3.at hin3 rfl
    refine Goes.st (U' := T2.setTop (mkF m 13 #[.val (.ref a1), .val (.int (2 : Int32)), .val (.int (6 : Int32)), .unset] [(.int (own_b0 x2))])) (fun t k => X2.baloadBytes hx (j := (6 : Int32)) (v := (.int (own_b0 x2))) (by rw [e2]; exact Ar3.1) (State.isArrayOf_alike hZ.alike Ar3.2.1) Ar3.2.2 hin3 hat3 (g := (mkF m 12 #[.val (.ref a1), .val (.int (2 : Int32)), .val (.int (6 : Int32)), .unset] [(.int (6 : Int32)), (.ref arr)])) rfl rfl (hb hby d4_12) t k) ?_
    refine Goes.st (U' := T2.setTop (mkF m 16 #[.val (.ref a1), .val (.int (2 : Int32)), .val (.int (6 : Int32)), .unset] [(.int (255 : Int32)), (.int (own_b0 x2))])) (fun t k => XS.sipush X2.here hx rfl (hb hby d4_13) k) ?_
    refine Goes.st (U' := T2.setTop (mkF m 17 #[.val (.ref a1), .val (.int (2 : Int32)), .val (.int (6 : Int32)), .unset] [(.int ((own_b0 x2) &&& (255 : Int32)))])) (fun t k => XS.iand X2.here hx rfl (hb hby d4_16) rfl k) ?_
    refine Goes.st (U' := T2.setTop (mkF m 18 #[.val (.ref a1), .val (.int (2 : Int32)), .val (.int (6 : Int32)), .unset] [(.ref a1), (.int ((own_b0 x2) &&& (255 : Int32)))])) (fun t k => XS.aloadN X2.here hx rfl (hb hby d4_17) rfl rfl k) ?_
    obtain ⟨T4, X4, e4, st4⟩ := getF X2 hx hZ hown (host := "") (Or.inl (hw _ (List.mem_of_getElem? (i := 16) rfl))) Via.refl e2 F_bytes_a1 (g := (mkF m 18 #[.val (.ref a1), .val (.int (2 : Int32)), .val (.int (6 : Int32)), .unset] [(.ref a1), (.int ((own_b0 x2) &&& (255 : Int32)))])) rfl rfl (hb hby d4_18)
    refine Goes.st (U' := T4.setTop (mkF m 21 #[.val (.ref a1), .val (.int (2 : Int32)), .val (.int (6 : Int32)), .unset] [(.ref arr), (.int ((own_b0 x2) &&& (255 : Int32)))])) (fun t k => st4 t k) ?_
    refine Goes.st (U' := T4.setTop (mkF m 22 #[.val (.ref a1), .val (.int (2 : Int32)), .val (.int (6 : Int32)), .unset] [(.int (6 : Int32)), (.ref arr), (.int ((own_b0 x2) &&& (255 : Int32)))])) (fun t k => XS.iloadN X4.here hx rfl (hb hby d4_21) rfl k) ?_
    refine Goes.st (U' := T4.setTop (mkF m 23 #[.val (.ref a1), .val (.int (2 : Int32)), .val (.int (6 : Int32)), .unset] [(.int (1 : Int32)), (.int (6 : Int32)), (.ref arr), (.int ((own_b0 x2) &&& (255 : Int32)))])) (fun t k => XS.iconst X4.here hx rfl (hb hby d4_22) k) ?_
    refine Goes.st (U' := T4.setTop (mkF m 24 #[.val (.ref a1), .val (.int (2 : Int32)), .val (.int (6 : Int32)), .unset] [(.int (7 : Int32)), (.ref arr), (.int ((own_b0 x2) &&& (255 : Int32)))])) (fun t k => XS.iadd X4.here hx rfl (hb hby d4_23) rfl k) ?_
    have Vx5 := V_arr
    obtain ⟨cl5, Ar5, qa5, S5, Nn5, H5, G5⟩ := Vx5
    have hin5 : ¬ ((7 : Int32) < 0 ∨ cl5.slots.size ≤ ((7 : Int32)).toNatClampNeg) := inb_of S5 ⟨by decide, by decide⟩
    have hat5 : cl5.slots[((7 : Int32)).toNatClampNeg]? = some (.int (own_b1 x2)) := H5.at hin5 rfl
    refine Goes.st (U' := T4.setTop (mkF m 25 #[.val (.ref a1), .val (.int (2 : Int32)), .val (.int (6 : Int32)), .unset] [(.int (own_b1 x2)), (.int ((own_b0 x2) &&& (255 : Int32)))])) (fun t k => X4.baloadBytes hx (j := (7 : Int32)) (v := (.int (own_b1 x2))) (by rw [e4]; exact Ar5.1) (State.isArrayOf_alike hZ.alike Ar5.2.1) Ar5.2.2 hin5 hat5 (g := (mkF m 24 #[.val (.ref a1), .val (.int (2 : Int32)), .val (.int (6 : Int32)), .unset] [(.int (7 : Int32)), (.ref arr), (.int ((own_b0 x2) &&& (255 : Int32)))])) rfl rfl (hb hby d4_24) t k) ?_
    refine Goes.st (U' := T4.setTop (mkF m 28 #[.val (.ref a1), .val (.int (2 : Int32)), .val (.int (6 : Int32)), .unset] [(.int (255 : Int32)), (.int (own_b1 x2)), (.int ((own_b0 x2) &&& (255 : Int32)))])) (fun t k => XS.sipush X4.here hx rfl (hb hby d4_25) k) ?_
    refine Goes.st (U' := T4.setTop (mkF m 29 #[.val (.ref a1), .val (.int (2 : Int32)), .val (.int (6 : Int32)), .unset] [(.int ((own_b1 x2) &&& (255 : Int32))), (.int ((own_b0 x2) &&& (255 : Int32)))])) (fun t k => XS.iand X4.here hx rfl (hb hby d4_28) rfl k) ?_
    refine Goes.st (U' := T4.setTop (mkF m 31 #[.val (.ref a1), .val (.int (2 : Int32)), .val (.int (6 : Int32)), .unset] [(.int (8 : Int32)), (.int ((own_b1 x2) &&& (255 : Int32))), (.int ((own_b0 x2) &&& (255 : Int32)))])) (fun t k => XS.bipush X4.here hx rfl (hb hby d4_29) k) ?_
    refine Goes.st (U' := T4.setTop (mkF m 32 #[.val (.ref a1), .val (.int (2 : Int32)), .val (.int (6 : Int32)), .unset] [(.int (((own_b1 x2) &&& (255 : Int32)) <<< ((8 : Int32) &&& 31))), (.int ((own_b0 x2) &&& (255 : Int32)))])) (fun t k => XS.ishl X4.here hx rfl (hb hby d4_31) rfl k) ?_
    refine Goes.st (U' := T4.setTop (mkF m 33 #[.val (.ref a1), .val (.int (2 : Int32)), .val (.int (6 : Int32)), .unset] [(.int (((own_b0 x2) &&& (255 : Int32)) ||| (((own_b1 x2) &&& (255 : Int32)) <<< ((8 : Int32) &&& 31))))])) (fun t k => XS.ior X4.here hx rfl (hb hby d4_32) rfl k) ?_
    refine Goes.st (U' := T4.setTop (mkF m 34 #[.val (.ref a1), .val (.int (2 : Int32)), .val (.int (6 : Int32)), .val (.int (((own_b0 x2) &&& (255 : Int32)) ||| (((own_b1 x2) &&& (255 : Int32)) <<< ((8 : Int32) &&& 31))))] [])) (fun t k => XS.istoreN X4.here hx rfl (hb hby d4_33) rfl (l' := #[.val (.ref a1), .val (.int (2 : Int32)), .val (.int (6 : Int32)), .val (.int (((own_b0 x2) &&& (255 : Int32)) ||| (((own_b1 x2) &&& (255 : Int32)) <<< ((8 : Int32) &&& 31))))]) rfl k) ?_
    refine Goes.st (U' := T4.setTop (mkF m 35 #[.val (.ref a1), .val (.int (2 : Int32)), .val (.int (6 : Int32)), .val (.int (((own_b0 x2) &&& (255 : Int32)) ||| (((own_b1 x2) &&& (255 : Int32)) <<< ((8 : Int32) &&& 31))))] [(.ref a1)])) (fun t k => XS.aloadN X4.here hx rfl (hb hby d4_34) rfl rfl k) ?_
    obtain ⟨T6, X6, e6, st6⟩ := getF X4 hx hZ hown (host := "") (Or.inl (hw _ (List.mem_of_getElem? (i := 18) rfl))) Via.refl e4 F_width_a1 (g := (mkF m 35 #[.val (.ref a1), .val (.int (2 : Int32)), .val (.int (6 : Int32)), .val (.int (((own_b0 x2) &&& (255 : Int32)) ||| (((own_b1 x2) &&& (255 : Int32)) <<< ((8 : Int32) &&& 31))))] [(.ref a1)])) rfl rfl (hb hby d4_35)
    refine Goes.st (U' := T6.setTop (mkF m 38 #[.val (.ref a1), .val (.int (2 : Int32)), .val (.int (6 : Int32)), .val (.int (((own_b0 x2) &&& (255 : Int32)) ||| (((own_b1 x2) &&& (255 : Int32)) <<< ((8 : Int32) &&& 31))))] [(.int (3 : Int32))])) (fun t k => st6 t k) ?_
    refine Goes.st (U' := T6.setTop (mkF m 39 #[.val (.ref a1), .val (.int (2 : Int32)), .val (.int (6 : Int32)), .val (.int (((own_b0 x2) &&& (255 : Int32)) ||| (((own_b1 x2) &&& (255 : Int32)) <<< ((8 : Int32) &&& 31))))] [(.int (3 : Int32)), (.int (3 : Int32))])) (fun t k => XS.iconst X6.here hx rfl (hb hby d4_38) k) ?_
    refine Goes.st (U' := T6.setTop (mkF m 42 #[.val (.ref a1), .val (.int (2 : Int32)), .val (.int (6 : Int32)), .val (.int (((own_b0 x2) &&& (255 : Int32)) ||| (((own_b1 x2) &&& (255 : Int32)) <<< ((8 : Int32) &&& 31))))] [])) (fun t k => XS.icmpNo X6.here hx rfl (hb hby d4_39) rfl (teq (rfl : (3 : Int32) = (3 : Int32))).2 k) ?_
    refine Goes.st (U' := T6.setTop (mkF m 43 #[.val (.ref a1), .val (.int (2 : Int32)), .val (.int (6 : Int32)), .val (.int (((own_b0 x2) &&& (255 : Int32)) ||| (((own_b1 x2) &&& (255 : Int32)) <<< ((8 : Int32) &&& 31))))] [(.int (((own_b0 x2) &&& (255 : Int32)) ||| (((own_b1 x2) &&& (255 : Int32)) <<< ((8 : Int32) &&& 31))))])) (fun t k => XS.iloadN X6.here hx rfl (hb hby d4_42) rfl k) ?_
    refine Goes.st (U' := T6.setTop (mkF m 44 #[.val (.ref a1), .val (.int (2 : Int32)), .val (.int (6 : Int32)), .val (.int (((own_b0 x2) &&& (255 : Int32)) ||| (((own_b1 x2) &&& (255 : Int32)) <<< ((8 : Int32) &&& 31))))] [(.ref a1), (.int (((own_b0 x2) &&& (255 : Int32)) ||| (((own_b1 x2) &&& (255 : Int32)) <<< ((8 : Int32) &&& 31))))])) (fun t k => XS.aloadN X6.here hx rfl (hb hby d4_43) rfl rfl k) ?_
    obtain ⟨T7, X7, e7, st7⟩ := getF X6 hx hZ hown (host := "") (Or.inl (hw _ (List.mem_of_getElem? (i := 16) rfl))) Via.refl e6 F_bytes_a1 (g := (mkF m 44 #[.val (.ref a1), .val (.int (2 : Int32)), .val (.int (6 : Int32)), .val (.int (((own_b0 x2) &&& (255 : Int32)) ||| (((own_b1 x2) &&& (255 : Int32)) <<< ((8 : Int32) &&& 31))))] [(.ref a1), (.int (((own_b0 x2) &&& (255 : Int32)) ||| (((own_b1 x2) &&& (255 : Int32)) <<< ((8 : Int32) &&& 31))))])) rfl rfl (hb hby d4_44)
    refine Goes.st (U' := T7.setTop (mkF m 47 #[.val (.ref a1), .val (.int (2 : Int32)), .val (.int (6 : Int32)), .val (.int (((own_b0 x2) &&& (255 : Int32)) ||| (((own_b1 x2) &&& (255 : Int32)) <<< ((8 : Int32) &&& 31))))] [(.ref arr), (.int (((own_b0 x2) &&& (255 : Int32)) ||| (((own_b1 x2) &&& (255 : Int32)) <<< ((8 : Int32) &&& 31))))])) (fun t k => st7 t k) ?_
    refine Goes.st (U' := T7.setTop (mkF m 48 #[.val (.ref a1), .val (.int (2 : Int32)), .val (.int (6 : Int32)), .val (.int (((own_b0 x2) &&& (255 : Int32)) ||| (((own_b1 x2) &&& (255 : Int32)) <<< ((8 : Int32) &&& 31))))] [(.int (6 : Int32)), (.ref arr), (.int (((own_b0 x2) &&& (255 : Int32)) ||| (((own_b1 x2) &&& (255 : Int32)) <<< ((8 : Int32) &&& 31))))])) (fun t k => XS.iloadN X7.here hx rfl (hb hby d4_47) rfl k) ?_
    refine Goes.st (U' := T7.setTop (mkF m 49 #[.val (.ref a1), .val (.int (2 : Int32)), .val (.int (6 : Int32)), .val (.int (((own_b0 x2) &&& (255 : Int32)) ||| (((own_b1 x2) &&& (255 : Int32)) <<< ((8 : Int32) &&& 31))))] [(.int (2 : Int32)), (.int (6 : Int32)), (.ref arr), (.int (((own_b0 x2) &&& (255 : Int32)) ||| (((own_b1 x2) &&& (255 : Int32)) <<< ((8 : Int32) &&& 31))))])) (fun t k => XS.iconst X7.here hx rfl (hb hby d4_48) k) ?_
    refine Goes.st (U' := T7.setTop (mkF m 50 #[.val (.ref a1), .val (.int (2 : Int32)), .val (.int (6 : Int32)), .val (.int (((own_b0 x2) &&& (255 : Int32)) ||| (((own_b1 x2) &&& (255 : Int32)) <<< ((8 : Int32) &&& 31))))] [(.int (8 : Int32)), (.ref arr), (.int (((own_b0 x2) &&& (255 : Int32)) ||| (((own_b1 x2) &&& (255 : Int32)) <<< ((8 : Int32) &&& 31))))])) (fun t k => XS.iadd X7.here hx rfl (hb hby d4_49) rfl k) ?_
    have Vx8 := V_arr
    obtain ⟨cl8, Ar8, qa8, S8, Nn8, H8, G8⟩ := Vx8
    have hin8 : ¬ ((8 : Int32) < 0 ∨ cl8.slots.size ≤ ((8 : Int32)).toNatClampNeg) := inb_of S8 ⟨by decide, by decide⟩
    have hat8 : cl8.slots[((8 : Int32)).toNatClampNeg]? = some (.int (own_b2 x2)) := H8.at hin8 rfl
    refine Goes.st (U' := T7.setTop (mkF m 51 #[.val (.ref a1), .val (.int (2 : Int32)), .val (.int (6 : Int32)), .val (.int (((own_b0 x2) &&& (255 : Int32)) ||| (((own_b1 x2) &&& (255 : Int32)) <<< ((8 : Int32) &&& 31))))] [(.int (own_b2 x2)), (.int (((own_b0 x2) &&& (255 : Int32)) ||| (((own_b1 x2) &&& (255 : Int32)) <<< ((8 : Int32) &&& 31))))])) (fun t k => X7.baloadBytes hx (j := (8 : Int32)) (v := (.int (own_b2 x2))) (by rw [e7]; exact Ar8.1) (State.isArrayOf_alike hZ.alike Ar8.2.1) Ar8.2.2 hin8 hat8 (g := (mkF m 50 #[.val (.ref a1), .val (.int (2 : Int32)), .val (.int (6 : Int32)), .val (.int (((own_b0 x2) &&& (255 : Int32)) ||| (((own_b1 x2) &&& (255 : Int32)) <<< ((8 : Int32) &&& 31))))] [(.int (8 : Int32)), (.ref arr), (.int (((own_b0 x2) &&& (255 : Int32)) ||| (((own_b1 x2) &&& (255 : Int32)) <<< ((8 : Int32) &&& 31))))])) rfl rfl (hb hby d4_50) t k) ?_
    refine Goes.st (U' := T7.setTop (mkF m 53 #[.val (.ref a1), .val (.int (2 : Int32)), .val (.int (6 : Int32)), .val (.int (((own_b0 x2) &&& (255 : Int32)) ||| (((own_b1 x2) &&& (255 : Int32)) <<< ((8 : Int32) &&& 31))))] [(.int (16 : Int32)), (.int (own_b2 x2)), (.int (((own_b0 x2) &&& (255 : Int32)) ||| (((own_b1 x2) &&& (255 : Int32)) <<< ((8 : Int32) &&& 31))))])) (fun t k => XS.bipush X7.here hx rfl (hb hby d4_51) k) ?_
    refine Goes.st (U' := T7.setTop (mkF m 54 #[.val (.ref a1), .val (.int (2 : Int32)), .val (.int (6 : Int32)), .val (.int (((own_b0 x2) &&& (255 : Int32)) ||| (((own_b1 x2) &&& (255 : Int32)) <<< ((8 : Int32) &&& 31))))] [(.int ((own_b2 x2) <<< ((16 : Int32) &&& 31))), (.int (((own_b0 x2) &&& (255 : Int32)) ||| (((own_b1 x2) &&& (255 : Int32)) <<< ((8 : Int32) &&& 31))))])) (fun t k => XS.ishl X7.here hx rfl (hb hby d4_53) rfl k) ?_
    refine Goes.st (U' := T7.setTop (mkF m 55 #[.val (.ref a1), .val (.int (2 : Int32)), .val (.int (6 : Int32)), .val (.int (((own_b0 x2) &&& (255 : Int32)) ||| (((own_b1 x2) &&& (255 : Int32)) <<< ((8 : Int32) &&& 31))))] [(.int ((((own_b0 x2) &&& (255 : Int32)) ||| (((own_b1 x2) &&& (255 : Int32)) <<< ((8 : Int32) &&& 31))) ||| ((own_b2 x2) <<< ((16 : Int32) &&& 31))))])) (fun t k => XS.ior X7.here hx rfl (hb hby d4_54) rfl k) ?_
    refine Goes.st (U' := T7.setTop (mkF m 87 #[.val (.ref a1), .val (.int (2 : Int32)), .val (.int (6 : Int32)), .val (.int (((own_b0 x2) &&& (255 : Int32)) ||| (((own_b1 x2) &&& (255 : Int32)) <<< ((8 : Int32) &&& 31))))] [(.int ((((own_b0 x2) &&& (255 : Int32)) ||| (((own_b1 x2) &&& (255 : Int32)) <<< ((8 : Int32) &&& 31))) ||| ((own_b2 x2) <<< ((16 : Int32) &&& 31))))])) (fun t k => XS.goto X7.here hx rfl (pc0 := 55) (pc' := 87) rfl (hb hby d4_55) (by decide) (by decide) k) ?_
    refine Goes.retI X7 hx (BodyLoose.notSynchronized Bd) Bd.returns (hb hby d4_87) (by decide) (by decide) ?_
    show Q_rmG2 Z a1 (2 : Int32) x0 x1 x2 h0 n0 _ T7.heap _
    rw [e7]
    exact ⟨by rw [own_d3 _ hf2_a1], N0, rfl⟩
  · skip
    obtain ⟨E_a1, F_length_a1, F_bytes_a1, F_width_a1, V_arr, ne_a1_arr⟩ := P
    refine Goes.st (U' := s₁.setTop (mkF m 1 #[.val (.ref a1), .val (.int (2 : Int32)), .unset, .unset] [(.int (2 : Int32))])) (fun t k => XS.iloadN X0.here hx rfl (hb hby d4_0) rfl k) ?_
    refine Goes.st (U' := s₁.setTop (mkF m 2 #[.val (.ref a1), .val (.int (2 : Int32)), .unset, .unset] [(.ref a1), (.int (2 : Int32))])) (fun t k => XS.aloadN X0.here hx rfl (hb hby d4_1) rfl rfl k) ?_
    obtain ⟨T9, X9, e9, st9⟩ := getF X0 hx hZ hown (host := "") (Or.inl (hw _ (List.mem_of_getElem? (i := 18) rfl))) Via.refl e0 F_width_a1 (g := (mkF m 2 #[.val (.ref a1), .val (.int (2 : Int32)), .unset, .unset] [(.ref a1), (.int (2 : Int32))])) rfl rfl (hb hby d4_2)
    refine Goes.st (U' := T9.setTop (mkF m 5 #[.val (.ref a1), .val (.int (2 : Int32)), .unset, .unset] [(.int (4 : Int32)), (.int (2 : Int32))])) (fun t k => st9 t k) ?_
    refine Goes.st (U' := T9.setTop (mkF m 6 #[.val (.ref a1), .val (.int (2 : Int32)), .unset, .unset] [(.int (8 : Int32))])) (fun t k => XS.imul X9.here hx rfl (hb hby d4_5) rfl k) ?_
    refine Goes.st (U' := T9.setTop (mkF m 7 #[.val (.ref a1), .val (.int (2 : Int32)), .val (.int (8 : Int32)), .unset] [])) (fun t k => XS.istoreN X9.here hx rfl (hb hby d4_6) rfl (l' := #[.val (.ref a1), .val (.int (2 : Int32)), .val (.int (8 : Int32)), .unset]) rfl k) ?_
    refine Goes.st (U' := T9.setTop (mkF m 8 #[.val (.ref a1), .val (.int (2 : Int32)), .val (.int (8 : Int32)), .unset] [(.ref a1)])) (fun t k => XS.aloadN X9.here hx rfl (hb hby d4_7) rfl rfl k) ?_
    obtain ⟨T10, X10, e10, st10⟩ := getF X9 hx hZ hown (host := "") (Or.inl (hw _ (List.mem_of_getElem? (i := 16) rfl))) Via.refl e9 F_bytes_a1 (g := (mkF m 8 #[.val (.ref a1), .val (.int (2 : Int32)), .val (.int (8 : Int32)), .unset] [(.ref a1)])) rfl rfl (hb hby d4_8)
    refine Goes.st (U' := T10.setTop (mkF m 11 #[.val (.ref a1), .val (.int (2 : Int32)), .val (.int (8 : Int32)), .unset] [(.ref arr)])) (fun t k => st10 t k) ?_
    refine Goes.st (U' := T10.setTop (mkF m 12 #[.val (.ref a1), .val (.int (2 : Int32)), .val (.int (8 : Int32)), .unset] [(.int (8 : Int32)), (.ref arr)])) (fun t k => XS.iloadN X10.here hx rfl (hb hby d4_11) rfl k) ?_
    have Vx11 := V_arr
    obtain ⟨cl11, Ar11, qa11, S11, Nn11, H11, G11⟩ := Vx11
    have hin11 : ¬ ((8 : Int32) < 0 ∨ cl11.slots.size ≤ ((8 : Int32)).toNatClampNeg) := inb_of S11 ⟨by decide, by decide⟩
    have hat11 : cl11.slots[((8 : Int32)).toNatClampNeg]? = some (.int (own_b0 x2)) := H11.at hin11 rfl
    refine Goes.st (U' := T10.setTop (mkF m 13 #[.val (.ref a1), .val (.int (2 : Int32)), .val (.int (8 : Int32)), .unset] [(.int (own_b0 x2))])) (fun t k => X10.baloadBytes hx (j := (8 : Int32)) (v := (.int (own_b0 x2))) (by rw [e10]; exact Ar11.1) (State.isArrayOf_alike hZ.alike Ar11.2.1) Ar11.2.2 hin11 hat11 (g := (mkF m 12 #[.val (.ref a1), .val (.int (2 : Int32)), .val (.int (8 : Int32)), .unset] [(.int (8 : Int32)), (.ref arr)])) rfl rfl (hb hby d4_12) t k) ?_
    refine Goes.st (U' := T10.setTop (mkF m 16 #[.val (.ref a1), .val (.int (2 : Int32)), .val (.int (8 : Int32)), .unset] [(.int (255 : Int32)), (.int (own_b0 x2))])) (fun t k => XS.sipush X10.here hx rfl (hb hby d4_13) k) ?_
    refine Goes.st (U' := T10.setTop (mkF m 17 #[.val (.ref a1), .val (.int (2 : Int32)), .val (.int (8 : Int32)), .unset] [(.int ((own_b0 x2) &&& (255 : Int32)))])) (fun t k => XS.iand X10.here hx rfl (hb hby d4_16) rfl k) ?_
    refine Goes.st (U' := T10.setTop (mkF m 18 #[.val (.ref a1), .val (.int (2 : Int32)), .val (.int (8 : Int32)), .unset] [(.ref a1), (.int ((own_b0 x2) &&& (255 : Int32)))])) (fun t k => XS.aloadN X10.here hx rfl (hb hby d4_17) rfl rfl k) ?_
    obtain ⟨T12, X12, e12, st12⟩ := getF X10 hx hZ hown (host := "") (Or.inl (hw _ (List.mem_of_getElem? (i := 16) rfl))) Via.refl e10 F_bytes_a1 (g := (mkF m 18 #[.val (.ref a1), .val (.int (2 : Int32)), .val (.int (8 : Int32)), .unset] [(.ref a1), (.int ((own_b0 x2) &&& (255 : Int32)))])) rfl rfl (hb hby d4_18)
    refine Goes.st (U' := T12.setTop (mkF m 21 #[.val (.ref a1), .val (.int (2 : Int32)), .val (.int (8 : Int32)), .unset] [(.ref arr), (.int ((own_b0 x2) &&& (255 : Int32)))])) (fun t k => st12 t k) ?_
    refine Goes.st (U' := T12.setTop (mkF m 22 #[.val (.ref a1), .val (.int (2 : Int32)), .val (.int (8 : Int32)), .unset] [(.int (8 : Int32)), (.ref arr), (.int ((own_b0 x2) &&& (255 : Int32)))])) (fun t k => XS.iloadN X12.here hx rfl (hb hby d4_21) rfl k) ?_
    refine Goes.st (U' := T12.setTop (mkF m 23 #[.val (.ref a1), .val (.int (2 : Int32)), .val (.int (8 : Int32)), .unset] [(.int (1 : Int32)), (.int (8 : Int32)), (.ref arr), (.int ((own_b0 x2) &&& (255 : Int32)))])) (fun t k => XS.iconst X12.here hx rfl (hb hby d4_22) k) ?_
    refine Goes.st (U' := T12.setTop (mkF m 24 #[.val (.ref a1), .val (.int (2 : Int32)), .val (.int (8 : Int32)), .unset] [(.int (9 : Int32)), (.ref arr), (.int ((own_b0 x2) &&& (255 : Int32)))])) (fun t k => XS.iadd X12.here hx rfl (hb hby d4_23) rfl k) ?_
    have Vx13 := V_arr
    obtain ⟨cl13, Ar13, qa13, S13, Nn13, H13, G13⟩ := Vx13
    have hin13 : ¬ ((9 : Int32) < 0 ∨ cl13.slots.size ≤ ((9 : Int32)).toNatClampNeg) := inb_of S13 ⟨by decide, by decide⟩
    have hat13 : cl13.slots[((9 : Int32)).toNatClampNeg]? = some (.int (own_b1 x2)) := H13.at hin13 rfl
    refine Goes.st (U' := T12.setTop (mkF m 25 #[.val (.ref a1), .val (.int (2 : Int32)), .val (.int (8 : Int32)), .unset] [(.int (own_b1 x2)), (.int ((own_b0 x2) &&& (255 : Int32)))])) (fun t k => X12.baloadBytes hx (j := (9 : Int32)) (v := (.int (own_b1 x2))) (by rw [e12]; exact Ar13.1) (State.isArrayOf_alike hZ.alike Ar13.2.1) Ar13.2.2 hin13 hat13 (g := (mkF m 24 #[.val (.ref a1), .val (.int (2 : Int32)), .val (.int (8 : Int32)), .unset] [(.int (9 : Int32)), (.ref arr), (.int ((own_b0 x2) &&& (255 : Int32)))])) rfl rfl (hb hby d4_24) t k) ?_
    refine Goes.st (U' := T12.setTop (mkF m 28 #[.val (.ref a1), .val (.int (2 : Int32)), .val (.int (8 : Int32)), .unset] [(.int (255 : Int32)), (.int (own_b1 x2)), (.int ((own_b0 x2) &&& (255 : Int32)))])) (fun t k => XS.sipush X12.here hx rfl (hb hby d4_25) k) ?_
    refine Goes.st (U' := T12.setTop (mkF m 29 #[.val (.ref a1), .val (.int (2 : Int32)), .val (.int (8 : Int32)), .unset] [(.int ((own_b1 x2) &&& (255 : Int32))), (.int ((own_b0 x2) &&& (255 : Int32)))])) (fun t k => XS.iand X12.here hx rfl (hb hby d4_28) rfl k) ?_
    refine Goes.st (U' := T12.setTop (mkF m 31 #[.val (.ref a1), .val (.int (2 : Int32)), .val (.int (8 : Int32)), .unset] [(.int (8 : Int32)), (.int ((own_b1 x2) &&& (255 : Int32))), (.int ((own_b0 x2) &&& (255 : Int32)))])) (fun t k => XS.bipush X12.here hx rfl (hb hby d4_29) k) ?_
    refine Goes.st (U' := T12.setTop (mkF m 32 #[.val (.ref a1), .val (.int (2 : Int32)), .val (.int (8 : Int32)), .unset] [(.int (((own_b1 x2) &&& (255 : Int32)) <<< ((8 : Int32) &&& 31))), (.int ((own_b0 x2) &&& (255 : Int32)))])) (fun t k => XS.ishl X12.here hx rfl (hb hby d4_31) rfl k) ?_
    refine Goes.st (U' := T12.setTop (mkF m 33 #[.val (.ref a1), .val (.int (2 : Int32)), .val (.int (8 : Int32)), .unset] [(.int (((own_b0 x2) &&& (255 : Int32)) ||| (((own_b1 x2) &&& (255 : Int32)) <<< ((8 : Int32) &&& 31))))])) (fun t k => XS.ior X12.here hx rfl (hb hby d4_32) rfl k) ?_
    refine Goes.st (U' := T12.setTop (mkF m 34 #[.val (.ref a1), .val (.int (2 : Int32)), .val (.int (8 : Int32)), .val (.int (((own_b0 x2) &&& (255 : Int32)) ||| (((own_b1 x2) &&& (255 : Int32)) <<< ((8 : Int32) &&& 31))))] [])) (fun t k => XS.istoreN X12.here hx rfl (hb hby d4_33) rfl (l' := #[.val (.ref a1), .val (.int (2 : Int32)), .val (.int (8 : Int32)), .val (.int (((own_b0 x2) &&& (255 : Int32)) ||| (((own_b1 x2) &&& (255 : Int32)) <<< ((8 : Int32) &&& 31))))]) rfl k) ?_
    refine Goes.st (U' := T12.setTop (mkF m 35 #[.val (.ref a1), .val (.int (2 : Int32)), .val (.int (8 : Int32)), .val (.int (((own_b0 x2) &&& (255 : Int32)) ||| (((own_b1 x2) &&& (255 : Int32)) <<< ((8 : Int32) &&& 31))))] [(.ref a1)])) (fun t k => XS.aloadN X12.here hx rfl (hb hby d4_34) rfl rfl k) ?_
    obtain ⟨T14, X14, e14, st14⟩ := getF X12 hx hZ hown (host := "") (Or.inl (hw _ (List.mem_of_getElem? (i := 18) rfl))) Via.refl e12 F_width_a1 (g := (mkF m 35 #[.val (.ref a1), .val (.int (2 : Int32)), .val (.int (8 : Int32)), .val (.int (((own_b0 x2) &&& (255 : Int32)) ||| (((own_b1 x2) &&& (255 : Int32)) <<< ((8 : Int32) &&& 31))))] [(.ref a1)])) rfl rfl (hb hby d4_35)
    refine Goes.st (U' := T14.setTop (mkF m 38 #[.val (.ref a1), .val (.int (2 : Int32)), .val (.int (8 : Int32)), .val (.int (((own_b0 x2) &&& (255 : Int32)) ||| (((own_b1 x2) &&& (255 : Int32)) <<< ((8 : Int32) &&& 31))))] [(.int (4 : Int32))])) (fun t k => st14 t k) ?_
    refine Goes.st (U' := T14.setTop (mkF m 39 #[.val (.ref a1), .val (.int (2 : Int32)), .val (.int (8 : Int32)), .val (.int (((own_b0 x2) &&& (255 : Int32)) ||| (((own_b1 x2) &&& (255 : Int32)) <<< ((8 : Int32) &&& 31))))] [(.int (3 : Int32)), (.int (4 : Int32))])) (fun t k => XS.iconst X14.here hx rfl (hb hby d4_38) k) ?_
    refine Goes.st (U' := T14.setTop (mkF m 58 #[.val (.ref a1), .val (.int (2 : Int32)), .val (.int (8 : Int32)), .val (.int (((own_b0 x2) &&& (255 : Int32)) ||| (((own_b1 x2) &&& (255 : Int32)) <<< ((8 : Int32) &&& 31))))] [])) (fun t k => XS.icmpYes X14.here hx rfl (pc0 := 39) (pc' := 58) rfl (hb hby d4_39) rfl (feq (by decide : ¬ ((4 : Int32) = (3 : Int32)))).2 (by decide) (by decide) k) ?_
    refine Goes.st (U' := T14.setTop (mkF m 59 #[.val (.ref a1), .val (.int (2 : Int32)), .val (.int (8 : Int32)), .val (.int (((own_b0 x2) &&& (255 : Int32)) ||| (((own_b1 x2) &&& (255 : Int32)) <<< ((8 : Int32) &&& 31))))] [(.int (((own_b0 x2) &&& (255 : Int32)) ||| (((own_b1 x2) &&& (255 : Int32)) <<< ((8 : Int32) &&& 31))))])) (fun t k => XS.iloadN X14.here hx rfl (hb hby d4_58) rfl k) ?_
    refine Goes.st (U' := T14.setTop (mkF m 60 #[.val (.ref a1), .val (.int (2 : Int32)), .val (.int (8 : Int32)), .val (.int (((own_b0 x2) &&& (255 : Int32)) ||| (((own_b1 x2) &&& (255 : Int32)) <<< ((8 : Int32) &&& 31))))] [(.ref a1), (.int (((own_b0 x2) &&& (255 : Int32)) ||| (((own_b1 x2) &&& (255 : Int32)) <<< ((8 : Int32) &&& 31))))])) (fun t k => XS.aloadN X14.here hx rfl (hb hby d4_59) rfl rfl k) ?_
    obtain ⟨T15, X15, e15, st15⟩ := getF X14 hx hZ hown (host := "") (Or.inl (hw _ (List.mem_of_getElem? (i := 16) rfl))) Via.refl e14 F_bytes_a1 (g := (mkF m 60 #[.val (.ref a1), .val (.int (2 : Int32)), .val (.int (8 : Int32)), .val (.int (((own_b0 x2) &&& (255 : Int32)) ||| (((own_b1 x2) &&& (255 : Int32)) <<< ((8 : Int32) &&& 31))))] [(.ref a1), (.int (((own_b0 x2) &&& (255 : Int32)) ||| (((own_b1 x2) &&& (255 : Int32)) <<< ((8 : Int32) &&& 31))))])) rfl rfl (hb hby d4_60)
    refine Goes.st (U' := T15.setTop (mkF m 63 #[.val (.ref a1), .val (.int (2 : Int32)), .val (.int (8 : Int32)), .val (.int (((own_b0 x2) &&& (255 : Int32)) ||| (((own_b1 x2) &&& (255 : Int32)) <<< ((8 : Int32) &&& 31))))] [(.ref arr), (.int (((own_b0 x2) &&& (255 : Int32)) ||| (((own_b1 x2) &&& (255 : Int32)) <<< ((8 : Int32) &&& 31))))])) (fun t k => st15 t k) ?_
    refine Goes.st (U' := T15.setTop (mkF m 64 #[.val (.ref a1), .val (.int (2 : Int32)), .val (.int (8 : Int32)), .val (.int (((own_b0 x2) &&& (255 : Int32)) ||| (((own_b1 x2) &&& (255 : Int32)) <<< ((8 : Int32) &&& 31))))] [(.int (8 : Int32)), (.ref arr), (.int (((own_b0 x2) &&& (255 : Int32)) ||| (((own_b1 x2) &&& (255 : Int32)) <<< ((8 : Int32) &&& 31))))])) (fun t k => XS.iloadN X15.here hx rfl (hb hby d4_63) rfl k) ?_
    refine Goes.st (U' := T15.setTop (mkF m 65 #[.val (.ref a1), .val (.int (2 : Int32)), .val (.int (8 : Int32)), .val (.int (((own_b0 x2) &&& (255 : Int32)) ||| (((own_b1 x2) &&& (255 : Int32)) <<< ((8 : Int32) &&& 31))))] [(.int (2 : Int32)), (.int (8 : Int32)), (.ref arr), (.int (((own_b0 x2) &&& (255 : Int32)) ||| (((own_b1 x2) &&& (255 : Int32)) <<< ((8 : Int32) &&& 31))))])) (fun t k => XS.iconst X15.here hx rfl (hb hby d4_64) k) ?_
    refine Goes.st (U' := T15.setTop (mkF m 66 #[.val (.ref a1), .val (.int (2 : Int32)), .val (.int (8 : Int32)), .val (.int (((own_b0 x2) &&& (255 : Int32)) ||| (((own_b1 x2) &&& (255 : Int32)) <<< ((8 : Int32) &&& 31))))] [(.int (10 : Int32)), (.ref arr), (.int (((own_b0 x2) &&& (255 : Int32)) ||| (((own_b1 x2) &&& (255 : Int32)) <<< ((8 : Int32) &&& 31))))])) (fun t k => XS.iadd X15.here hx rfl (hb hby d4_65) rfl k) ?_
    have Vx16 := V_arr
    obtain ⟨cl16, Ar16, qa16, S16, Nn16, H16, G16⟩ := Vx16
    have hin16 : ¬ ((10 : Int32) < 0 ∨ cl16.slots.size ≤ ((10 : Int32)).toNatClampNeg) := inb_of S16 ⟨by decide, by decide⟩
    have hat16 : cl16.slots[((10 : Int32)).toNatClampNeg]? = some (.int (own_b2 x2)) := H16.at hin16 rfl
    refine Goes.st (U' := T15.setTop (mkF m 67 #[.val (.ref a1), .val (.int (2 : Int32)), .val (.int (8 : Int32)), .val (.int (((own_b0 x2) &&& (255 : Int32)) ||| (((own_b1 x2) &&& (255 : Int32)) <<< ((8 : Int32) &&& 31))))] [(.int (own_b2 x2)), (.int (((own_b0 x2) &&& (255 : Int32)) ||| (((own_b1 x2) &&& (255 : Int32)) <<< ((8 : Int32) &&& 31))))])) (fun t k => X15.baloadBytes hx (j := (10 : Int32)) (v := (.int (own_b2 x2))) (by rw [e15]; exact Ar16.1) (State.isArrayOf_alike hZ.alike Ar16.2.1) Ar16.2.2 hin16 hat16 (g := (mkF m 66 #[.val (.ref a1), .val (.int (2 : Int32)), .val (.int (8 : Int32)), .val (.int (((own_b0 x2) &&& (255 : Int32)) ||| (((own_b1 x2) &&& (255 : Int32)) <<< ((8 : Int32) &&& 31))))] [(.int (10 : Int32)), (.ref arr), (.int (((own_b0 x2) &&& (255 : Int32)) ||| (((own_b1 x2) &&& (255 : Int32)) <<< ((8 : Int32) &&& 31))))])) rfl rfl (hb hby d4_66) t k) ?_
    refine Goes.st (U' := T15.setTop (mkF m 70 #[.val (.ref a1), .val (.int (2 : Int32)), .val (.int (8 : Int32)), .val (.int (((own_b0 x2) &&& (255 : Int32)) ||| (((own_b1 x2) &&& (255 : Int32)) <<< ((8 : Int32) &&& 31))))] [(.int (255 : Int32)), (.int (own_b2 x2)), (.int (((own_b0 x2) &&& (255 : Int32)) ||| (((own_b1 x2) &&& (255 : Int32)) <<< ((8 : Int32) &&& 31))))])) (fun t k => XS.sipush X15.here hx rfl (hb hby d4_67) k) ?_
    refine Goes.st (U' := T15.setTop (mkF m 71 #[.val (.ref a1), .val (.int (2 : Int32)), .val (.int (8 : Int32)), .val (.int (((own_b0 x2) &&& (255 : Int32)) ||| (((own_b1 x2) &&& (255 : Int32)) <<< ((8 : Int32) &&& 31))))] [(.int ((own_b2 x2) &&& (255 : Int32))), (.int (((own_b0 x2) &&& (255 : Int32)) ||| (((own_b1 x2) &&& (255 : Int32)) <<< ((8 : Int32) &&& 31))))])) (fun t k => XS.iand X15.here hx rfl (hb hby d4_70) rfl k) ?_
    refine Goes.st (U' := T15.setTop (mkF m 73 #[.val (.ref a1), .val (.int (2 : Int32)), .val (.int (8 : Int32)), .val (.int (((own_b0 x2) &&& (255 : Int32)) ||| (((own_b1 x2) &&& (255 : Int32)) <<< ((8 : Int32) &&& 31))))] [(.int (16 : Int32)), (.int ((own_b2 x2) &&& (255 : Int32))), (.int (((own_b0 x2) &&& (255 : Int32)) ||| (((own_b1 x2) &&& (255 : Int32)) <<< ((8 : Int32) &&& 31))))])) (fun t k => XS.bipush X15.here hx rfl (hb hby d4_71) k) ?_
    refine Goes.st (U' := T15.setTop (mkF m 74 #[.val (.ref a1), .val (.int (2 : Int32)), .val (.int (8 : Int32)), .val (.int (((own_b0 x2) &&& (255 : Int32)) ||| (((own_b1 x2) &&& (255 : Int32)) <<< ((8 : Int32) &&& 31))))] [(.int (((own_b2 x2) &&& (255 : Int32)) <<< ((16 : Int32) &&& 31))), (.int (((own_b0 x2) &&& (255 : Int32)) ||| (((own_b1 x2) &&& (255 : Int32)) <<< ((8 : Int32) &&& 31))))])) (fun t k => XS.ishl X15.here hx rfl (hb hby d4_73) rfl k) ?_
    refine Goes.st (U' := T15.setTop (mkF m 75 #[.val (.ref a1), .val (.int (2 : Int32)), .val (.int (8 : Int32)), .val (.int (((own_b0 x2) &&& (255 : Int32)) ||| (((own_b1 x2) &&& (255 : Int32)) <<< ((8 : Int32) &&& 31))))] [(.int ((((own_b0 x2) &&& (255 : Int32)) ||| (((own_b1 x2) &&& (255 : Int32)) <<< ((8 : Int32) &&& 31))) ||| (((own_b2 x2) &&& (255 : Int32)) <<< ((16 : Int32) &&& 31))))])) (fun t k => XS.ior X15.here hx rfl (hb hby d4_74) rfl k) ?_
    refine Goes.st (U' := T15.setTop (mkF m 76 #[.val (.ref a1), .val (.int (2 : Int32)), .val (.int (8 : Int32)), .val (.int (((own_b0 x2) &&& (255 : Int32)) ||| (((own_b1 x2) &&& (255 : Int32)) <<< ((8 : Int32) &&& 31))))] [(.ref a1), (.int ((((own_b0 x2) &&& (255 : Int32)) ||| (((own_b1 x2) &&& (255 : Int32)) <<< ((8 : Int32) &&& 31))) ||| (((own_b2 x2) &&& (255 : Int32)) <<< ((16 : Int32) &&& 31))))])) (fun t k => XS.aloadN X15.here hx rfl (hb hby d4_75) rfl rfl k) ?_
    obtain ⟨T17, X17, e17, st17⟩ := getF X15 hx hZ hown (host := "") (Or.inl (hw _ (List.mem_of_getElem? (i := 16) rfl))) Via.refl e15 F_bytes_a1 (g := (mkF m 76 #[.val (.ref a1), .val (.int (2 : Int32)), .val (.int (8 : Int32)), .val (.int (((own_b0 x2) &&& (255 : Int32)) ||| (((own_b1 x2) &&& (255 : Int32)) <<< ((8 : Int32) &&& 31))))] [(.ref a1), (.int ((((own_b0 x2) &&& (255 : Int32)) ||| (((own_b1 x2) &&& (255 : Int32)) <<< ((8 : Int32) &&& 31))) ||| (((own_b2 x2) &&& (255 : Int32)) <<< ((16 : Int32) &&& 31))))])) rfl rfl (hb hby d4_76)
    refine Goes.st (U' := T17.setTop (mkF m 79 #[.val (.ref a1), .val (.int (2 : Int32)), .val (.int (8 : Int32)), .val (.int (((own_b0 x2) &&& (255 : Int32)) ||| (((own_b1 x2) &&& (255 : Int32)) <<< ((8 : Int32) &&& 31))))] [(.ref arr), (.int ((((own_b0 x2) &&& (255 : Int32)) ||| (((own_b1 x2) &&& (255 : Int32)) <<< ((8 : Int32) &&& 31))) ||| (((own_b2 x2) &&& (255 : Int32)) <<< ((16 : Int32) &&& 31))))])) (fun t k => st17 t k) ?_
    refine Goes.st (U' := T17.setTop (mkF m 80 #[.val (.ref a1), .val (.int (2 : Int32)), .val (.int (8 : Int32)), .val (.int (((own_b0 x2) &&& (255 : Int32)) ||| (((own_b1 x2) &&& (255 : Int32)) <<< ((8 : Int32) &&& 31))))] [(.int (8 : Int32)), (.ref arr), (.int ((((own_b0 x2) &&& (255 : Int32)) ||| (((own_b1 x2) &&& (255 : Int32)) <<< ((8 : Int32) &&& 31))) ||| (((own_b2 x2) &&& (255 : Int32)) <<< ((16 : Int32) &&& 31))))])) (fun t k => XS.iloadN X17.here hx rfl (hb hby d4_79) rfl k) ?_
    refine Goes.st (U' := T17.setTop (mkF m 81 #[.val (.ref a1), .val (.int (2 : Int32)), .val (.int (8 : Int32)), .val (.int (((own_b0 x2) &&& (255 : Int32)) ||| (((own_b1 x2) &&& (255 : Int32)) <<< ((8 : Int32) &&& 31))))] [(.int (3 : Int32)), (.int (8 : Int32)), (.ref arr), (.int ((((own_b0 x2) &&& (255 : Int32)) ||| (((own_b1 x2) &&& (255 : Int32)) <<< ((8 : Int32) &&& 31))) ||| (((own_b2 x2) &&& (255 : Int32)) <<< ((16 : Int32) &&& 31))))])) (fun t k => XS.iconst X17.here hx rfl (hb hby d4_80) k) ?_
    refine Goes.st (U' := T17.setTop (mkF m 82 #[.val (.ref a1), .val (.int (2 : Int32)), .val (.int (8 : Int32)), .val (.int (((own_b0 x2) &&& (255 : Int32)) ||| (((own_b1 x2) &&& (255 : Int32)) <<< ((8 : Int32) &&& 31))))] [(.int (11 : Int32)), (.ref arr), (.int ((((own_b0 x2) &&& (255 : Int32)) ||| (((own_b1 x2) &&& (255 : Int32)) <<< ((8 : Int32) &&& 31))) ||| (((own_b2 x2) &&& (255 : Int32)) <<< ((16 : Int32) &&& 31))))])) (fun t k => XS.iadd X17.here hx rfl (hb hby d4_81) rfl k) ?_
    have Vx18 := V_arr
    obtain ⟨cl18, Ar18, qa18, S18, Nn18, H18, G18⟩ := Vx18
    have hin18 : ¬ ((11 : Int32) < 0 ∨ cl18.slots.size ≤ ((11 : Int32)).toNatClampNeg) := inb_of S18 ⟨by decide, by decide⟩
    have hat18 : cl18.slots[((11 : Int32)).toNatClampNeg]? = some (.int (own_b3 x2)) := H18.at hin18 rfl
    refine Goes.st (U' := T17.setTop (mkF m 83 #[.val (.ref a1), .val (.int (2 : Int32)), .val (.int (8 : Int32)), .val (.int (((own_b0 x2) &&& (255 : Int32)) ||| (((own_b1 x2) &&& (255 : Int32)) <<< ((8 : Int32) &&& 31))))] [(.int (own_b3 x2)), (.int ((((own_b0 x2) &&& (255 : Int32)) ||| (((own_b1 x2) &&& (255 : Int32)) <<< ((8 : Int32) &&& 31))) ||| (((own_b2 x2) &&& (255 : Int32)) <<< ((16 : Int32) &&& 31))))])) (fun t k => X17.baloadBytes hx (j := (11 : Int32)) (v := (.int (own_b3 x2))) (by rw [e17]; exact Ar18.1) (State.isArrayOf_alike hZ.alike Ar18.2.1) Ar18.2.2 hin18 hat18 (g := (mkF m 82 #[.val (.ref a1), .val (.int (2 : Int32)), .val (.int (8 : Int32)), .val (.int (((own_b0 x2) &&& (255 : Int32)) ||| (((own_b1 x2) &&& (255 : Int32)) <<< ((8 : Int32) &&& 31))))] [(.int (11 : Int32)), (.ref arr), (.int ((((own_b0 x2) &&& (255 : Int32)) ||| (((own_b1 x2) &&& (255 : Int32)) <<< ((8 : Int32) &&& 31))) ||| (((own_b2 x2) &&& (255 : Int32)) <<< ((16 : Int32) &&& 31))))])) rfl rfl (hb hby d4_82) t k) ?_
    refine Goes.st (U' := T17.setTop (mkF m 85 #[.val (.ref a1), .val (.int (2 : Int32)), .val (.int (8 : Int32)), .val (.int (((own_b0 x2) &&& (255 : Int32)) ||| (((own_b1 x2) &&& (255 : Int32)) <<< ((8 : Int32) &&& 31))))] [(.int (24 : Int32)), (.int (own_b3 x2)), (.int ((((own_b0 x2) &&& (255 : Int32)) ||| (((own_b1 x2) &&& (255 : Int32)) <<< ((8 : Int32) &&& 31))) ||| (((own_b2 x2) &&& (255 : Int32)) <<< ((16 : Int32) &&& 31))))])) (fun t k => XS.bipush X17.here hx rfl (hb hby d4_83) k) ?_
    refine Goes.st (U' := T17.setTop (mkF m 86 #[.val (.ref a1), .val (.int (2 : Int32)), .val (.int (8 : Int32)), .val (.int (((own_b0 x2) &&& (255 : Int32)) ||| (((own_b1 x2) &&& (255 : Int32)) <<< ((8 : Int32) &&& 31))))] [(.int ((own_b3 x2) <<< ((24 : Int32) &&& 31))), (.int ((((own_b0 x2) &&& (255 : Int32)) ||| (((own_b1 x2) &&& (255 : Int32)) <<< ((8 : Int32) &&& 31))) ||| (((own_b2 x2) &&& (255 : Int32)) <<< ((16 : Int32) &&& 31))))])) (fun t k => XS.ishl X17.here hx rfl (hb hby d4_85) rfl k) ?_
    refine Goes.st (U' := T17.setTop (mkF m 87 #[.val (.ref a1), .val (.int (2 : Int32)), .val (.int (8 : Int32)), .val (.int (((own_b0 x2) &&& (255 : Int32)) ||| (((own_b1 x2) &&& (255 : Int32)) <<< ((8 : Int32) &&& 31))))] [(.int (((((own_b0 x2) &&& (255 : Int32)) ||| (((own_b1 x2) &&& (255 : Int32)) <<< ((8 : Int32) &&& 31))) ||| (((own_b2 x2) &&& (255 : Int32)) <<< ((16 : Int32) &&& 31))) ||| ((own_b3 x2) <<< ((24 : Int32) &&& 31))))])) (fun t k => XS.ior X17.here hx rfl (hb hby d4_86) rfl k) ?_
    refine Goes.retI X17 hx (BodyLoose.notSynchronized Bd) Bd.returns (hb hby d4_87) (by decide) (by decide) ?_
    show Q_rmG2 Z a1 (2 : Int32) x0 x1 x2 h0 n0 _ T17.heap _
    rw [e17]
    exact ⟨by rw [own_d4], N0, rfl⟩
theorem d6_0 : decode prog_81_method_11_code 0 = .ok (.iload_n 0, 1) := by decide +kernel
theorem d6_1 : decode prog_81_method_11_code 1 = .ok (.ldc 68, 2) := by decide +kernel
theorem d6_3 : decode prog_81_method_11_code 3 = .ok (.if_icmp .lt 13, 3) := by decide +kernel
theorem d6_6 : decode prog_81_method_11_code 6 = .ok (.iload_n 0, 1) := by decide +kernel
theorem d6_7 : decode prog_81_method_11_code 7 = .ok (.ldc 69, 2) := by decide +kernel
theorem d6_9 : decode prog_81_method_11_code 9 = .ok (.if_icmp .gt 7, 3) := by decide +kernel
theorem d6_12 : decode prog_81_method_11_code 12 = .ok (.iconst 1, 1) := by decide +kernel
theorem d6_13 : decode prog_81_method_11_code 13 = .ok (.goto 4, 3) := by decide +kernel
theorem d6_16 : decode prog_81_method_11_code 16 = .ok (.iconst 0, 1) := by decide +kernel
theorem d6_17 : decode prog_81_method_11_code 17 = .ok (.ireturn, 1) := by decide +kernel
theorem ef_rm6 (m : MethodId) (p1 : Int32) : entryFrame m #[(.int p1)] 1 = mkF m 0 #[.val (.int p1)] [] := by first | (simp [entryFrame, mkF, argsToLocals, Value.category]; done) | rfl
def fnfits (p1 : Int32) : Int32 := (if p1 < (-8388608 : Int32) then (0 : Int32) else (if (8388607 : Int32) < p1 then (0 : Int32) else (1 : Int32)))
def Q6 (Z : State) (p1 : Int32) (h0 : Heap) (n0 : Nat) (v : Option Value) (h : Heap) (L : List Loc) : Prop := v = some (.int (fnfits p1)) ∧ Fr n0 L ∧ h = h0
set_option maxRecDepth 65536 in
set_option maxHeartbeats 40000000 in
theorem rm6 (l : Launch) (Z : State) (a0 : Array Value) (hw : ∀ d ∈ tables_1, d.before a0 Z = true) (ws : List Jvm.Cond) (p1 : Int32) (h0 : Heap) (n0 : Nat) (Z0 : n0 ≤ h0.size) :
    MetFree l (⟨"com/example/chaise/chaise/core/PackedInts", "fits", "(I)Z"⟩ : MethodName) (head1 (Jvm.Cond.code (⟨"com/example/chaise/chaise/core/PackedInts", "fits", "(I)Z"⟩ : MethodName) prog_81_method_11_code 1 (some .boolean) :: ws) ({ frames := 0, cells := 0, slots := 0, locals := 0 } : Room)) (fun a U => a = #[(.int p1)] ∧ Z.Warmed39 U.vm ∧ U.heap = h0) (fun _ _ _ _ _ => True) (fun _ U o U' => ∃ v L, o = .returned v ∧ Q6 Z p1 h0 n0 v U'.heap L ∧ FrameEnd U o U' L ({ frames := 0, cells := 0, slots := 0, locals := 0 } : Room).cells ({ frames := 0, cells := 0, slots := 0, locals := 0 } : Room).slots) := by
  refine MetFree.of_bodySF (plainFor_of_name pn_0) hisR ?_
  intro p e s m args below meth c s₁ Bd hml0 hP hK
  obtain ⟨rfl, hZ, hh⟩ := hP
  have hx := Bd.exec
  have hby := Bd.bytes
  have hml : c.maxLocals = 1 := hml0
  have hown : s.vm.findClass "com/example/chaise/chaise/core/PackedInts" = some m.cls := findClass_of_methodNamed Bd.named
  have hnm := (name_of_methodNamed Bd.named Bd.method).1
  have X0 : Stand p l e ({ frames := 0, cells := 0, slots := 0, locals := 0 } : Room) s m #[(.int p1)] below meth c s₁ [] 0 0 := Stand.of_body Bd
  have e0 : s₁.heap = h0 := by rw [← hh, Bd.state]; rfl
  have N0 := Fr.nil n0
  show Goes p e s below (fun v h L => Q6 Z p1 h0 n0 v h L) ({ frames := 0, cells := 0, slots := 0, locals := 0 } : Room).cells ({ frames := 0, cells := 0, slots := 0, locals := 0 } : Room).slots (s₁.setTop (entryFrame m #[(.int p1)] 1))
  refine Goes.st (U' := s₁.setTop (mkF m 0 #[.val (.int p1)] [])) (fun t k => castTop (ef_rm6 m p1) k) ?_
  refine Goes.st (U' := s₁.setTop (mkF m 1 #[.val (.int p1)] [(.int p1)])) (fun t k => XS.iloadN X0.here hx rfl (hb hby d6_0) rfl k) ?_
  refine Goes.st (U' := s₁.setTop (mkF m 3 #[.val (.int p1)] [(.int (-8388608 : Int32)), (.int p1)])) (fun t k => X0.ldcInt hx hown (mvT hZ (hw _ (List.mem_of_getElem? (i := 34) rfl))) (g := (mkF m 1 #[.val (.int p1)] [(.int p1)])) rfl (hb hby d6_1) t k) ?_
  rcases Decidable.em (p1 < (-8388608 : Int32)) with hc3 | hc3
  · refine Goes.st (U' := s₁.setTop (mkF m 16 #[.val (.int p1)] [])) (fun t k => XS.icmpYes X0.here hx rfl (pc0 := 3) (pc' := 16) rfl (hb hby d6_3) rfl (tlt hc3).1 (by decide) (by decide) k) ?_
    refine Goes.st (U' := s₁.setTop (mkF m 17 #[.val (.int p1)] [(.int (0 : Int32))])) (fun t k => XS.iconst X0.here hx rfl (hb hby d6_16) k) ?_
    refine Goes.retZ X0 hx (BodyLoose.notSynchronized Bd) Bd.returns (hb hby d6_17) rfl (by decide) (by decide) ?_
    show Q6 Z p1 h0 n0 _ s₁.heap _
    rw [e0]
    exact ⟨(congrArg some (congrArg _ (by unfold fnfits; rw [if_pos hc3]))), N0, rfl⟩
  · refine Goes.st (U' := s₁.setTop (mkF m 6 #[.val (.int p1)] [])) (fun t k => XS.icmpNo X0.here hx rfl (hb hby d6_3) rfl (flt hc3).1 k) ?_
    refine Goes.st (U' := s₁.setTop (mkF m 7 #[.val (.int p1)] [(.int p1)])) (fun t k => XS.iloadN X0.here hx rfl (hb hby d6_6) rfl k) ?_
    refine Goes.st (U' := s₁.setTop (mkF m 9 #[.val (.int p1)] [(.int (8388607 : Int32)), (.int p1)])) (fun t k => X0.ldcInt hx hown (mvT hZ (hw _ (List.mem_of_getElem? (i := 35) rfl))) (g := (mkF m 7 #[.val (.int p1)] [(.int p1)])) rfl (hb hby d6_7) t k) ?_
    rcases Decidable.em ((8388607 : Int32) < p1) with hc9 | hc9
    · refine Goes.st (U' := s₁.setTop (mkF m 16 #[.val (.int p1)] [])) (fun t k => XS.icmpYes X0.here hx rfl (pc0 := 9) (pc' := 16) rfl (hb hby d6_9) rfl (tlt hc9).2.2.1 (by decide) (by decide) k) ?_
      refine Goes.st (U' := s₁.setTop (mkF m 17 #[.val (.int p1)] [(.int (0 : Int32))])) (fun t k => XS.iconst X0.here hx rfl (hb hby d6_16) k) ?_
      refine Goes.retZ X0 hx (BodyLoose.notSynchronized Bd) Bd.returns (hb hby d6_17) rfl (by decide) (by decide) ?_
      show Q6 Z p1 h0 n0 _ s₁.heap _
      rw [e0]
      exact ⟨(congrArg some (congrArg _ (by unfold fnfits; rw [if_neg hc3]; rw [if_pos hc9]))), N0, rfl⟩
    · refine Goes.st (U' := s₁.setTop (mkF m 12 #[.val (.int p1)] [])) (fun t k => XS.icmpNo X0.here hx rfl (hb hby d6_9) rfl (flt hc9).2.2.1 k) ?_
      refine Goes.st (U' := s₁.setTop (mkF m 13 #[.val (.int p1)] [(.int (1 : Int32))])) (fun t k => XS.iconst X0.here hx rfl (hb hby d6_12) k) ?_
      refine Goes.st (U' := s₁.setTop (mkF m 17 #[.val (.int p1)] [(.int (1 : Int32))])) (fun t k => XS.goto X0.here hx rfl (pc0 := 13) (pc' := 17) rfl (hb hby d6_13) (by decide) (by decide) k) ?_
      refine Goes.retZ X0 hx (BodyLoose.notSynchronized Bd) Bd.returns (hb hby d6_17) rfl (by decide) (by decide) ?_
      show Q6 Z p1 h0 n0 _ s₁.heap _
      rw [e0]
      exact ⟨(congrArg some (congrArg _ (by unfold fnfits; rw [if_neg hc3]; rw [if_neg hc9]))), N0, rfl⟩
theorem own_fits1 (x : Int32) (h : ¬ fnfits x = 0) : own_fit x := by
  unfold fnfits at h
  by_cases h1 : x < (-8388608 : Int32)
  · rw [if_pos h1] at h; exact absurd rfl h
  · rw [if_neg h1] at h
    by_cases h2 : (8388607 : Int32) < x
    · rw [if_pos h2] at h; exact absurd rfl h
    · exact ⟨h1, h2⟩
theorem d5_0 : decode prog_81_method_6_code 0 = .ok (.aload_n 0, 1) := by decide +kernel
theorem d5_1 : decode prog_81_method_6_code 1 = .ok (.getfield 39, 3) := by decide +kernel
theorem d5_4 : decode prog_81_method_6_code 4 = .ok (.iconst 3, 1) := by decide +kernel
theorem d5_5 : decode prog_81_method_6_code 5 = .ok (.if_icmp .ne 14, 3) := by decide +kernel
theorem d5_19 : decode prog_81_method_6_code 19 = .ok (.iload_n 1, 1) := by decide +kernel
theorem d5_20 : decode prog_81_method_6_code 20 = .ok (.aload_n 0, 1) := by decide +kernel
theorem d5_21 : decode prog_81_method_6_code 21 = .ok (.getfield 39, 3) := by decide +kernel
theorem d5_24 : decode prog_81_method_6_code 24 = .ok (.imul, 1) := by decide +kernel
theorem d5_25 : decode prog_81_method_6_code 25 = .ok (.istore_n 3, 1) := by decide +kernel
theorem d5_26 : decode prog_81_method_6_code 26 = .ok (.aload_n 0, 1) := by decide +kernel
theorem d5_27 : decode prog_81_method_6_code 27 = .ok (.getfield 35, 3) := by decide +kernel
theorem d5_30 : decode prog_81_method_6_code 30 = .ok (.iload_n 3, 1) := by decide +kernel
theorem d5_31 : decode prog_81_method_6_code 31 = .ok (.iload_n 2, 1) := by decide +kernel
theorem d5_32 : decode prog_81_method_6_code 32 = .ok (.i2b, 1) := by decide +kernel
theorem d5_33 : decode prog_81_method_6_code 33 = .ok (.bastore, 1) := by decide +kernel
theorem d5_34 : decode prog_81_method_6_code 34 = .ok (.aload_n 0, 1) := by decide +kernel
theorem d5_35 : decode prog_81_method_6_code 35 = .ok (.getfield 35, 3) := by decide +kernel
theorem d5_38 : decode prog_81_method_6_code 38 = .ok (.iload_n 3, 1) := by decide +kernel
theorem d5_39 : decode prog_81_method_6_code 39 = .ok (.iconst 1, 1) := by decide +kernel
theorem d5_40 : decode prog_81_method_6_code 40 = .ok (.iadd, 1) := by decide +kernel
theorem d5_41 : decode prog_81_method_6_code 41 = .ok (.iload_n 2, 1) := by decide +kernel
theorem d5_42 : decode prog_81_method_6_code 42 = .ok (.bipush 8, 2) := by decide +kernel
theorem d5_44 : decode prog_81_method_6_code 44 = .ok (.ishr, 1) := by decide +kernel
theorem d5_45 : decode prog_81_method_6_code 45 = .ok (.i2b, 1) := by decide +kernel
theorem d5_46 : decode prog_81_method_6_code 46 = .ok (.bastore, 1) := by decide +kernel
theorem d5_47 : decode prog_81_method_6_code 47 = .ok (.aload_n 0, 1) := by decide +kernel
theorem d5_48 : decode prog_81_method_6_code 48 = .ok (.getfield 35, 3) := by decide +kernel
theorem d5_51 : decode prog_81_method_6_code 51 = .ok (.iload_n 3, 1) := by decide +kernel
theorem d5_52 : decode prog_81_method_6_code 52 = .ok (.iconst 2, 1) := by decide +kernel
theorem d5_53 : decode prog_81_method_6_code 53 = .ok (.iadd, 1) := by decide +kernel
theorem d5_54 : decode prog_81_method_6_code 54 = .ok (.iload_n 2, 1) := by decide +kernel
theorem d5_55 : decode prog_81_method_6_code 55 = .ok (.bipush 16, 2) := by decide +kernel
theorem d5_57 : decode prog_81_method_6_code 57 = .ok (.ishr, 1) := by decide +kernel
theorem d5_58 : decode prog_81_method_6_code 58 = .ok (.i2b, 1) := by decide +kernel
theorem d5_59 : decode prog_81_method_6_code 59 = .ok (.bastore, 1) := by decide +kernel
theorem d5_60 : decode prog_81_method_6_code 60 = .ok (.aload_n 0, 1) := by decide +kernel
theorem d5_61 : decode prog_81_method_6_code 61 = .ok (.getfield 39, 3) := by decide +kernel
theorem d5_64 : decode prog_81_method_6_code 64 = .ok (.iconst 4, 1) := by decide +kernel
theorem d5_65 : decode prog_81_method_6_code 65 = .ok (.if_icmp .ne 16, 3) := by decide +kernel
theorem d5_68 : decode prog_81_method_6_code 68 = .ok (.aload_n 0, 1) := by decide +kernel
theorem d5_69 : decode prog_81_method_6_code 69 = .ok (.getfield 35, 3) := by decide +kernel
theorem d5_72 : decode prog_81_method_6_code 72 = .ok (.iload_n 3, 1) := by decide +kernel
theorem d5_73 : decode prog_81_method_6_code 73 = .ok (.iconst 3, 1) := by decide +kernel
theorem d5_74 : decode prog_81_method_6_code 74 = .ok (.iadd, 1) := by decide +kernel
theorem d5_75 : decode prog_81_method_6_code 75 = .ok (.iload_n 2, 1) := by decide +kernel
theorem d5_76 : decode prog_81_method_6_code 76 = .ok (.bipush 24, 2) := by decide +kernel
theorem d5_78 : decode prog_81_method_6_code 78 = .ok (.ishr, 1) := by decide +kernel
theorem d5_79 : decode prog_81_method_6_code 79 = .ok (.i2b, 1) := by decide +kernel
theorem d5_80 : decode prog_81_method_6_code 80 = .ok (.bastore, 1) := by decide +kernel
theorem d5_81 : decode prog_81_method_6_code 81 = .ok (.return_, 1) := by decide +kernel
theorem ef_rmT0 (m : MethodId) (a1 : Addr) (p2 : Int32) (p3 : Int32) : entryFrame m #[(.ref a1), (.int p2), (.int p3)] 4 = mkF m 0 #[.val (.ref a1), .val (.int p2), .val (.int p3), .unset] [] := by first | (simp [entryFrame, mkF, argsToLocals, Value.category]; done) | rfl
def Q_rmT0 (Z : State) (a1 : Addr) (p2 : Int32) (p3 : Int32) (arr : Addr) (k : ClassId) (x0 : Int32) (x1 : Int32) (x2 : Int32) (h0 : Heap) (n0 : Nat) (v : Option Value) (h : Heap) (L : List Loc) : Prop := v = none ∧ Fr n0 L ∧ Keep h0 h [arr] ∧ P4 Z h a1 arr k p3 x1 x2
set_option maxRecDepth 65536 in
set_option maxHeartbeats 40000000 in
theorem rmT0 (l : Launch) (Z : State) (a0 : Array Value) (hw : ∀ d ∈ tables_1, d.before a0 Z = true) (ws : List Jvm.Cond) (a1 : Addr) (p2 : Int32) (p3 : Int32) (arr : Addr) (k : ClassId) (x0 : Int32) (x1 : Int32) (x2 : Int32) (h0 : Heap) (n0 : Nat) (Z0 : n0 ≤ h0.size) (P : P4 Z h0 a1 arr k x0 x1 x2) (e2 : p2 = (0 : Int32)) (g_arr : n0 ≤ arr) :
    MetFree l (⟨"com/example/chaise/chaise/core/PackedInts", "set", "(II)V"⟩ : MethodName) (head1 (Jvm.Cond.code (⟨"com/example/chaise/chaise/core/PackedInts", "set", "(II)V"⟩ : MethodName) prog_81_method_6_code 4 none :: ws) ({ frames := 0, cells := 0, slots := 0, locals := 0 } : Room)) (fun a U => a = #[(.ref a1), (.int p2), (.int p3)] ∧ Z.Warmed39 U.vm ∧ U.heap = h0) (fun _ _ _ _ _ => True) (fun _ U o U' => ∃ v L, o = .returned v ∧ Q_rmT0 Z a1 (0 : Int32) p3 arr k x0 x1 x2 h0 n0 v U'.heap L ∧ FrameEnd U o U' L ({ frames := 0, cells := 0, slots := 0, locals := 0 } : Room).cells ({ frames := 0, cells := 0, slots := 0, locals := 0 } : Room).slots) := by
  refine MetFree.of_bodySF (plainFor_of_name pn_0) hisR ?_
  intro p e s m args below meth c s₁ Bd hml0 hP hK
  obtain ⟨rfl, hZ, hh⟩ := hP
  have hx := Bd.exec
  have hby := Bd.bytes
  have hml : c.maxLocals = 4 := hml0
  have hown : s.vm.findClass "com/example/chaise/chaise/core/PackedInts" = some m.cls := findClass_of_methodNamed Bd.named
  have hnm := (name_of_methodNamed Bd.named Bd.method).1
  have X0 : Stand p l e ({ frames := 0, cells := 0, slots := 0, locals := 0 } : Room) s m #[(.ref a1), (.int p2), (.int p3)] below meth c s₁ [] 0 0 := Stand.of_body Bd
  have e0 : s₁.heap = h0 := by rw [← hh, Bd.state]; rfl
  have N0 := Fr.nil n0
  show Goes p e s below (fun v h L => Q_rmT0 Z a1 (0 : Int32) p3 arr k x0 x1 x2 h0 n0 v h L) ({ frames := 0, cells := 0, slots := 0, locals := 0 } : Room).cells ({ frames := 0, cells := 0, slots := 0, locals := 0 } : Room).slots (s₁.setTop (entryFrame m #[(.ref a1), (.int p2), (.int p3)] 4))
  refine Goes.st (U' := s₁.setTop (mkF m 0 #[.val (.ref a1), .val (.int p2), .val (.int p3), .unset] [])) (fun t k => castTop (ef_rmT0 m a1 p2 p3) k) ?_
  subst e2
  obtain ⟨E_a1, F_length_a1, F_bytes_a1, F_width_a1, V_arr, ne_a1_arr⟩ := P
  refine Goes.st (U' := s₁.setTop (mkF m 1 #[.val (.ref a1), .val (.int (0 : Int32)), .val (.int p3), .unset] [(.ref a1)])) (fun t k => XS.aloadN X0.here hx rfl (hb hby d5_0) rfl rfl k) ?_
  obtain ⟨T1, X1, e1, st1⟩ := getF X0 hx hZ hown (host := "") (Or.inl (hw _ (List.mem_of_getElem? (i := 18) rfl))) Via.refl e0 F_width_a1 (g := (mkF m 1 #[.val (.ref a1), .val (.int (0 : Int32)), .val (.int p3), .unset] [(.ref a1)])) rfl rfl (hb hby d5_1)
  refine Goes.st (U' := T1.setTop (mkF m 4 #[.val (.ref a1), .val (.int (0 : Int32)), .val (.int p3), .unset] [(.int (4 : Int32))])) (fun t k => st1 t k) ?_
  refine Goes.st (U' := T1.setTop (mkF m 5 #[.val (.ref a1), .val (.int (0 : Int32)), .val (.int p3), .unset] [(.int (3 : Int32)), (.int (4 : Int32))])) (fun t k => XS.iconst X1.here hx rfl (hb hby d5_4) k) ?_
  refine Goes.st (U' := T1.setTop (mkF m 19 #[.val (.ref a1), .val (.int (0 : Int32)), .val (.int p3), .unset] [])) (fun t k => XS.icmpYes X1.here hx rfl (pc0 := 5) (pc' := 19) rfl (hb hby d5_5) rfl (feq (by decide : ¬ ((4 : Int32) = (3 : Int32)))).2 (by decide) (by decide) k) ?_
  refine Goes.st (U' := T1.setTop (mkF m 20 #[.val (.ref a1), .val (.int (0 : Int32)), .val (.int p3), .unset] [(.int (0 : Int32))])) (fun t k => XS.iloadN X1.here hx rfl (hb hby d5_19) rfl k) ?_
  refine Goes.st (U' := T1.setTop (mkF m 21 #[.val (.ref a1), .val (.int (0 : Int32)), .val (.int p3), .unset] [(.ref a1), (.int (0 : Int32))])) (fun t k => XS.aloadN X1.here hx rfl (hb hby d5_20) rfl rfl k) ?_
  obtain ⟨T2, X2, e2, st2⟩ := getF X1 hx hZ hown (host := "") (Or.inl (hw _ (List.mem_of_getElem? (i := 18) rfl))) Via.refl e1 F_width_a1 (g := (mkF m 21 #[.val (.ref a1), .val (.int (0 : Int32)), .val (.int p3), .unset] [(.ref a1), (.int (0 : Int32))])) rfl rfl (hb hby d5_21)
  refine Goes.st (U' := T2.setTop (mkF m 24 #[.val (.ref a1), .val (.int (0 : Int32)), .val (.int p3), .unset] [(.int (4 : Int32)), (.int (0 : Int32))])) (fun t k => st2 t k) ?_
  refine Goes.st (U' := T2.setTop (mkF m 25 #[.val (.ref a1), .val (.int (0 : Int32)), .val (.int p3), .unset] [(.int (0 : Int32))])) (fun t k => XS.imul X2.here hx rfl (hb hby d5_24) rfl k) ?_
  refine Goes.st (U' := T2.setTop (mkF m 26 #[.val (.ref a1), .val (.int (0 : Int32)), .val (.int p3), .val (.int (0 : Int32))] [])) (fun t k => XS.istoreN X2.here hx rfl (hb hby d5_25) rfl (l' := #[.val (.ref a1), .val (.int (0 : Int32)), .val (.int p3), .val (.int (0 : Int32))]) rfl k) ?_
  refine Goes.st (U' := T2.setTop (mkF m 27 #[.val (.ref a1), .val (.int (0 : Int32)), .val (.int p3), .val (.int (0 : Int32))] [(.ref a1)])) (fun t k => XS.aloadN X2.here hx rfl (hb hby d5_26) rfl rfl k) ?_
  obtain ⟨T3, X3, e3, st3⟩ := getF X2 hx hZ hown (host := "") (Or.inl (hw _ (List.mem_of_getElem? (i := 16) rfl))) Via.refl e2 F_bytes_a1 (g := (mkF m 27 #[.val (.ref a1), .val (.int (0 : Int32)), .val (.int p3), .val (.int (0 : Int32))] [(.ref a1)])) rfl rfl (hb hby d5_27)
  refine Goes.st (U' := T3.setTop (mkF m 30 #[.val (.ref a1), .val (.int (0 : Int32)), .val (.int p3), .val (.int (0 : Int32))] [(.ref arr)])) (fun t k => st3 t k) ?_
  refine Goes.st (U' := T3.setTop (mkF m 31 #[.val (.ref a1), .val (.int (0 : Int32)), .val (.int p3), .val (.int (0 : Int32))] [(.int (0 : Int32)), (.ref arr)])) (fun t k => XS.iloadN X3.here hx rfl (hb hby d5_30) rfl k) ?_
  refine Goes.st (U' := T3.setTop (mkF m 32 #[.val (.ref a1), .val (.int (0 : Int32)), .val (.int p3), .val (.int (0 : Int32))] [(.int p3), (.int (0 : Int32)), (.ref arr)])) (fun t k => XS.iloadN X3.here hx rfl (hb hby d5_31) rfl k) ?_
  refine Goes.st (U' := T3.setTop (mkF m 33 #[.val (.ref a1), .val (.int (0 : Int32)), .val (.int p3), .val (.int (0 : Int32))] [(.int (p3.toInt8.toInt32)), (.int (0 : Int32)), (.ref arr)])) (fun t k => XS.i2b X3.here hx rfl (hb hby d5_32) rfl k) ?_
  have Vx4 := V_arr
  obtain ⟨cl4, Ar4, qa4, S4, Nn4, H4, G4⟩ := Vx4
  have hin4 : ¬ ((0 : Int32) < 0 ∨ cl4.slots.size ≤ ((0 : Int32)).toNatClampNeg) := inb_of S4 ⟨by decide, by decide⟩
  obtain ⟨T4, h4, X4, e4, W4, st4⟩ := stB X3 hx hZ e3 Ar4 (j := (0 : Int32)) hin4 (g := (mkF m 33 #[.val (.ref a1), .val (.int (0 : Int32)), .val (.int p3), .val (.int (0 : Int32))] [(.int (p3.toInt8.toInt32)), (.int (0 : Int32)), (.ref arr)])) rfl rfl (hb hby d5_33)
  have V4 : Arv Z h4 arr k .byte (12 : Int32) [(.int ((p3.toInt8.toInt32).toInt8.toInt32)), (.int (own_b1 x0)), (.int (own_b2 x0)), (.int (own_b3 x0)), (.int (own_b0 x1)), (.int (own_b1 x1)), (.int (own_b2 x1)), (.int (own_b3 x1)), (.int (own_b0 x2)), (.int (own_b1 x2)), (.int (own_b2 x2)), (.int (own_b3 x2))] (.int (0 : Int32)) := Arv.set Ar4 qa4 S4 Nn4 H4 G4 (fits_nar_byte _) W4 0 rfl (Nat.le_of_ble_eq_true rfl)
  have N4 := Fr.snoc X4 N0 g_arr
  have K_5 : Keep h0 h4 [arr] := (Keep.refl h0 [arr]).wr W4 (Or.inl (List.mem_of_getElem? (i := 0) rfl))
  refine Goes.st (U' := T4.setTop (mkF m 34 #[.val (.ref a1), .val (.int (0 : Int32)), .val (.int p3), .val (.int (0 : Int32))] [])) (fun t k => st4 t k) ?_
  refine Goes.st (U' := T4.setTop (mkF m 35 #[.val (.ref a1), .val (.int (0 : Int32)), .val (.int p3), .val (.int (0 : Int32))] [(.ref a1)])) (fun t k => XS.aloadN X4.here hx rfl (hb hby d5_34) rfl rfl k) ?_
  obtain ⟨T6, X6, e6, st6⟩ := getF X4 hx hZ hown (host := "") (Or.inl (hw _ (List.mem_of_getElem? (i := 16) rfl))) Via.refl e4 (F_bytes_a1.other W4 (Or.inl ne_a1_arr)) (g := (mkF m 35 #[.val (.ref a1), .val (.int (0 : Int32)), .val (.int p3), .val (.int (0 : Int32))] [(.ref a1)])) rfl rfl (hb hby d5_35)
  refine Goes.st (U' := T6.setTop (mkF m 38 #[.val (.ref a1), .val (.int (0 : Int32)), .val (.int p3), .val (.int (0 : Int32))] [(.ref arr)])) (fun t k => st6 t k) ?_
  refine Goes.st (U' := T6.setTop (mkF m 39 #[.val (.ref a1), .val (.int (0 : Int32)), .val (.int p3), .val (.int (0 : Int32))] [(.int (0 : Int32)), (.ref arr)])) (fun t k => XS.iloadN X6.here hx rfl (hb hby d5_38) rfl k) ?_
  refine Goes.st (U' := T6.setTop (mkF m 40 #[.val (.ref a1), .val (.int (0 : Int32)), .val (.int p3), .val (.int (0 : Int32))] [(.int (1 : Int32)), (.int (0 : Int32)), (.ref arr)])) (fun t k => XS.iconst X6.here hx rfl (hb hby d5_39) k) ?_
  refine Goes.st (U' := T6.setTop (mkF m 41 #[.val (.ref a1), .val (.int (0 : Int32)), .val (.int p3), .val (.int (0 : Int32))] [(.int (1 : Int32)), (.ref arr)])) (fun t k => XS.iadd X6.here hx rfl (hb hby d5_40) rfl k) ?_
  refine Goes.st (U' := T6.setTop (mkF m 42 #[.val (.ref a1), .val (.int (0 : Int32)), .val (.int p3), .val (.int (0 : Int32))] [(.int p3), (.int (1 : Int32)), (.ref arr)])) (fun t k => XS.iloadN X6.here hx rfl (hb hby d5_41) rfl k) ?_
  refine Goes.st (U' := T6.setTop (mkF m 44 #[.val (.ref a1), .val (.int (0 : Int32)), .val (.int p3), .val (.int (0 : Int32))] [(.int (8 : Int32)), (.int p3), (.int (1 : Int32)), (.ref arr)])) (fun t k => XS.bipush X6.here hx rfl (hb hby d5_42) k) ?_
  refine Goes.st (U' := T6.setTop (mkF m 45 #[.val (.ref a1), .val (.int (0 : Int32)), .val (.int p3), .val (.int (0 : Int32))] [(.int (p3 >>> ((8 : Int32) &&& 31))), (.int (1 : Int32)), (.ref arr)])) (fun t k => XS.ishr X6.here hx rfl (hb hby d5_44) rfl k) ?_
  refine Goes.st (U' := T6.setTop (mkF m 46 #[.val (.ref a1), .val (.int (0 : Int32)), .val (.int p3), .val (.int (0 : Int32))] [(.int ((p3 >>> ((8 : Int32) &&& 31)).toInt8.toInt32)), (.int (1 : Int32)), (.ref arr)])) (fun t k => XS.i2b X6.here hx rfl (hb hby d5_45) rfl k) ?_
  have Vx7 := V4
  obtain ⟨cl7, Ar7, qa7, S7, Nn7, H7, G7⟩ := Vx7
  have hin7 : ¬ ((1 : Int32) < 0 ∨ cl7.slots.size ≤ ((1 : Int32)).toNatClampNeg) := inb_of S7 ⟨by decide, by decide⟩
  obtain ⟨T7, h7, X7, e7, W7, st7⟩ := stB X6 hx hZ e6 Ar7 (j := (1 : Int32)) hin7 (g := (mkF m 46 #[.val (.ref a1), .val (.int (0 : Int32)), .val (.int p3), .val (.int (0 : Int32))] [(.int ((p3 >>> ((8 : Int32) &&& 31)).toInt8.toInt32)), (.int (1 : Int32)), (.ref arr)])) rfl rfl (hb hby d5_46)
  have V7 : Arv Z h7 arr k .byte (12 : Int32) [(.int ((p3.toInt8.toInt32).toInt8.toInt32)), (.int (((p3 >>> ((8 : Int32) &&& 31)).toInt8.toInt32).toInt8.toInt32)), (.int (own_b2 x0)), (.int (own_b3 x0)), (.int (own_b0 x1)), (.int (own_b1 x1)), (.int (own_b2 x1)), (.int (own_b3 x1)), (.int (own_b0 x2)), (.int (own_b1 x2)), (.int (own_b2 x2)), (.int (own_b3 x2))] (.int (0 : Int32)) := Arv.set Ar7 qa7 S7 Nn7 H7 G7 (fits_nar_byte _) W7 1 rfl (Nat.le_of_ble_eq_true rfl)
  have N7 := Fr.snoc X7 N4 g_arr
  have K_8 : Keep h0 h7 [arr] := K_5.wr W7 (Or.inl (List.mem_of_getElem? (i := 0) rfl))
  refine Goes.st (U' := T7.setTop (mkF m 47 #[.val (.ref a1), .val (.int (0 : Int32)), .val (.int p3), .val (.int (0 : Int32))] [])) (fun t k => st7 t k) ?_
  refine Goes.st (U' := T7.setTop (mkF m 48 #[.val (.ref a1), .val (.int (0 : Int32)), .val (.int p3), .val (.int (0 : Int32))] [(.ref a1)])) (fun t k => XS.aloadN X7.here hx rfl (hb hby d5_47) rfl rfl k) ?_
  obtain ⟨T9, X9, e9, st9⟩ := getF X7 hx hZ hown (host := "") (Or.inl (hw _ (List.mem_of_getElem? (i := 16) rfl))) Via.refl e7 ((F_bytes_a1.other W4 (Or.inl ne_a1_arr)).other W7 (Or.inl ne_a1_arr)) (g := (mkF m 48 #[.val (.ref a1), .val (.int (0 : Int32)), .val (.int p3), .val (.int (0 : Int32))] [(.ref a1)])) rfl rfl (hb hby d5_48)
  refine Goes.st (U' := T9.setTop (mkF m 51 #[.val (.ref a1), .val (.int (0 : Int32)), .val (.int p3), .val (.int (0 : Int32))] [(.ref arr)])) (fun t k => st9 t k) ?_
  refine Goes.st (U' := T9.setTop (mkF m 52 #[.val (.ref a1), .val (.int (0 : Int32)), .val (.int p3), .val (.int (0 : Int32))] [(.int (0 : Int32)), (.ref arr)])) (fun t k => XS.iloadN X9.here hx rfl (hb hby d5_51) rfl k) ?_
  refine Goes.st (U' := T9.setTop (mkF m 53 #[.val (.ref a1), .val (.int (0 : Int32)), .val (.int p3), .val (.int (0 : Int32))] [(.int (2 : Int32)), (.int (0 : Int32)), (.ref arr)])) (fun t k => XS.iconst X9.here hx rfl (hb hby d5_52) k) ?_
  refine Goes.st (U' := T9.setTop (mkF m 54 #[.val (.ref a1), .val (.int (0 : Int32)), .val (.int p3), .val (.int (0 : Int32))] [(.int (2 : Int32)), (.ref arr)])) (fun t k => XS.iadd X9.here hx rfl (hb hby d5_53) rfl k) ?_
  refine Goes.st (U' := T9.setTop (mkF m 55 #[.val (.ref a1), .val (.int (0 : Int32)), .val (.int p3), .val (.int (0 : Int32))] [(.int p3), (.int (2 : Int32)), (.ref arr)])) (fun t k => XS.iloadN X9.here hx rfl (hb hby d5_54) rfl k) ?_
  refine Goes.st (U' := T9.setTop (mkF m 57 #[.val (.ref a1), .val (.int (0 : Int32)), .val (.int p3), .val (.int (0 : Int32))] [(.int (16 : Int32)), (.int p3), (.int (2 : Int32)), (.ref arr)])) (fun t k => XS.bipush X9.here hx rfl (hb hby d5_55) k) ?_
  refine Goes.st (U' := T9.setTop (mkF m 58 #[.val (.ref a1), .val (.int (0 : Int32)), .val (.int p3), .val (.int (0 : Int32))] [(.int (p3 >>> ((16 : Int32) &&& 31))), (.int (2 : Int32)), (.ref arr)])) (fun t k => XS.ishr X9.here hx rfl (hb hby d5_57) rfl k) ?_
  refine Goes.st (U' := T9.setTop (mkF m 59 #[.val (.ref a1), .val (.int (0 : Int32)), .val (.int p3), .val (.int (0 : Int32))] [(.int ((p3 >>> ((16 : Int32) &&& 31)).toInt8.toInt32)), (.int (2 : Int32)), (.ref arr)])) (fun t k => XS.i2b X9.here hx rfl (hb hby d5_58) rfl k) ?_
  have Vx10 := V7
  obtain ⟨cl10, Ar10, qa10, S10, Nn10, H10, G10⟩ := Vx10
  have hin10 : ¬ ((2 : Int32) < 0 ∨ cl10.slots.size ≤ ((2 : Int32)).toNatClampNeg) := inb_of S10 ⟨by decide, by decide⟩
  obtain ⟨T10, h10, X10, e10, W10, st10⟩ := stB X9 hx hZ e9 Ar10 (j := (2 : Int32)) hin10 (g := (mkF m 59 #[.val (.ref a1), .val (.int (0 : Int32)), .val (.int p3), .val (.int (0 : Int32))] [(.int ((p3 >>> ((16 : Int32) &&& 31)).toInt8.toInt32)), (.int (2 : Int32)), (.ref arr)])) rfl rfl (hb hby d5_59)
  have V10 : Arv Z h10 arr k .byte (12 : Int32) [(.int ((p3.toInt8.toInt32).toInt8.toInt32)), (.int (((p3 >>> ((8 : Int32) &&& 31)).toInt8.toInt32).toInt8.toInt32)), (.int (((p3 >>> ((16 : Int32) &&& 31)).toInt8.toInt32).toInt8.toInt32)), (.int (own_b3 x0)), (.int (own_b0 x1)), (.int (own_b1 x1)), (.int (own_b2 x1)), (.int (own_b3 x1)), (.int (own_b0 x2)), (.int (own_b1 x2)), (.int (own_b2 x2)), (.int (own_b3 x2))] (.int (0 : Int32)) := Arv.set Ar10 qa10 S10 Nn10 H10 G10 (fits_nar_byte _) W10 2 rfl (Nat.le_of_ble_eq_true rfl)
  have N10 := Fr.snoc X10 N7 g_arr
  have K_11 : Keep h0 h10 [arr] := K_8.wr W10 (Or.inl (List.mem_of_getElem? (i := 0) rfl))
  refine Goes.st (U' := T10.setTop (mkF m 60 #[.val (.ref a1), .val (.int (0 : Int32)), .val (.int p3), .val (.int (0 : Int32))] [])) (fun t k => st10 t k) ?_
  refine Goes.st (U' := T10.setTop (mkF m 61 #[.val (.ref a1), .val (.int (0 : Int32)), .val (.int p3), .val (.int (0 : Int32))] [(.ref a1)])) (fun t k => XS.aloadN X10.here hx rfl (hb hby d5_60) rfl rfl k) ?_
  obtain ⟨T12, X12, e12, st12⟩ := getF X10 hx hZ hown (host := "") (Or.inl (hw _ (List.mem_of_getElem? (i := 18) rfl))) Via.refl e10 (((F_width_a1.other W4 (Or.inl ne_a1_arr)).other W7 (Or.inl ne_a1_arr)).other W10 (Or.inl ne_a1_arr)) (g := (mkF m 61 #[.val (.ref a1), .val (.int (0 : Int32)), .val (.int p3), .val (.int (0 : Int32))] [(.ref a1)])) rfl rfl (hb hby d5_61)
  refine Goes.st (U' := T12.setTop (mkF m 64 #[.val (.ref a1), .val (.int (0 : Int32)), .val (.int p3), .val (.int (0 : Int32))] [(.int (4 : Int32))])) (fun t k => st12 t k) ?_
  refine Goes.st (U' := T12.setTop (mkF m 65 #[.val (.ref a1), .val (.int (0 : Int32)), .val (.int p3), .val (.int (0 : Int32))] [(.int (4 : Int32)), (.int (4 : Int32))])) (fun t k => XS.iconst X12.here hx rfl (hb hby d5_64) k) ?_
  refine Goes.st (U' := T12.setTop (mkF m 68 #[.val (.ref a1), .val (.int (0 : Int32)), .val (.int p3), .val (.int (0 : Int32))] [])) (fun t k => XS.icmpNo X12.here hx rfl (hb hby d5_65) rfl (teq (rfl : (4 : Int32) = (4 : Int32))).2 k) ?_
  refine Goes.st (U' := T12.setTop (mkF m 69 #[.val (.ref a1), .val (.int (0 : Int32)), .val (.int p3), .val (.int (0 : Int32))] [(.ref a1)])) (fun t k => XS.aloadN X12.here hx rfl (hb hby d5_68) rfl rfl k) ?_
  obtain ⟨T13, X13, e13, st13⟩ := getF X12 hx hZ hown (host := "") (Or.inl (hw _ (List.mem_of_getElem? (i := 16) rfl))) Via.refl e12 (((F_bytes_a1.other W4 (Or.inl ne_a1_arr)).other W7 (Or.inl ne_a1_arr)).other W10 (Or.inl ne_a1_arr)) (g := (mkF m 69 #[.val (.ref a1), .val (.int (0 : Int32)), .val (.int p3), .val (.int (0 : Int32))] [(.ref a1)])) rfl rfl (hb hby d5_69)
  refine Goes.st (U' := T13.setTop (mkF m 72 #[.val (.ref a1), .val (.int (0 : Int32)), .val (.int p3), .val (.int (0 : Int32))] [(.ref arr)])) (fun t k => st13 t k) ?_
  refine Goes.st (U' := T13.setTop (mkF m 73 #[.val (.ref a1), .val (.int (0 : Int32)), .val (.int p3), .val (.int (0 : Int32))] [(.int (0 : Int32)), (.ref arr)])) (fun t k => XS.iloadN X13.here hx rfl (hb hby d5_72) rfl k) ?_
  refine Goes.st (U' := T13.setTop (mkF m 74 #[.val (.ref a1), .val (.int (0 : Int32)), .val (.int p3), .val (.int (0 : Int32))] [(.int (3 : Int32)), (.int (0 : Int32)), (.ref arr)])) (fun t k => XS.iconst X13.here hx rfl (hb hby d5_73) k) ?_
  refine Goes.st (U' := T13.setTop (mkF m 75 #[.val (.ref a1), .val (.int (0 : Int32)), .val (.int p3), .val (.int (0 : Int32))] [(.int (3 : Int32)), (.ref arr)])) (fun t k => XS.iadd X13.here hx rfl (hb hby d5_74) rfl k) ?_
  refine Goes.st (U' := T13.setTop (mkF m 76 #[.val (.ref a1), .val (.int (0 : Int32)), .val (.int p3), .val (.int (0 : Int32))] [(.int p3), (.int (3 : Int32)), (.ref arr)])) (fun t k => XS.iloadN X13.here hx rfl (hb hby d5_75) rfl k) ?_
  refine Goes.st (U' := T13.setTop (mkF m 78 #[.val (.ref a1), .val (.int (0 : Int32)), .val (.int p3), .val (.int (0 : Int32))] [(.int (24 : Int32)), (.int p3), (.int (3 : Int32)), (.ref arr)])) (fun t k => XS.bipush X13.here hx rfl (hb hby d5_76) k) ?_
  refine Goes.st (U' := T13.setTop (mkF m 79 #[.val (.ref a1), .val (.int (0 : Int32)), .val (.int p3), .val (.int (0 : Int32))] [(.int (p3 >>> ((24 : Int32) &&& 31))), (.int (3 : Int32)), (.ref arr)])) (fun t k => XS.ishr X13.here hx rfl (hb hby d5_78) rfl k) ?_
  refine Goes.st (U' := T13.setTop (mkF m 80 #[.val (.ref a1), .val (.int (0 : Int32)), .val (.int p3), .val (.int (0 : Int32))] [(.int ((p3 >>> ((24 : Int32) &&& 31)).toInt8.toInt32)), (.int (3 : Int32)), (.ref arr)])) (fun t k => XS.i2b X13.here hx rfl (hb hby d5_79) rfl k) ?_
  have Vx14 := V10
  obtain ⟨cl14, Ar14, qa14, S14, Nn14, H14, G14⟩ := Vx14
  have hin14 : ¬ ((3 : Int32) < 0 ∨ cl14.slots.size ≤ ((3 : Int32)).toNatClampNeg) := inb_of S14 ⟨by decide, by decide⟩
  obtain ⟨T14, h14, X14, e14, W14, st14⟩ := stB X13 hx hZ e13 Ar14 (j := (3 : Int32)) hin14 (g := (mkF m 80 #[.val (.ref a1), .val (.int (0 : Int32)), .val (.int p3), .val (.int (0 : Int32))] [(.int ((p3 >>> ((24 : Int32) &&& 31)).toInt8.toInt32)), (.int (3 : Int32)), (.ref arr)])) rfl rfl (hb hby d5_80)
  have V14 : Arv Z h14 arr k .byte (12 : Int32) [(.int ((p3.toInt8.toInt32).toInt8.toInt32)), (.int (((p3 >>> ((8 : Int32) &&& 31)).toInt8.toInt32).toInt8.toInt32)), (.int (((p3 >>> ((16 : Int32) &&& 31)).toInt8.toInt32).toInt8.toInt32)), (.int (((p3 >>> ((24 : Int32) &&& 31)).toInt8.toInt32).toInt8.toInt32)), (.int (own_b0 x1)), (.int (own_b1 x1)), (.int (own_b2 x1)), (.int (own_b3 x1)), (.int (own_b0 x2)), (.int (own_b1 x2)), (.int (own_b2 x2)), (.int (own_b3 x2))] (.int (0 : Int32)) := Arv.set Ar14 qa14 S14 Nn14 H14 G14 (fits_nar_byte _) W14 3 rfl (Nat.le_of_ble_eq_true rfl)
  have N14 := Fr.snoc X14 N10 g_arr
  have K_15 : Keep h0 h14 [arr] := K_11.wr W14 (Or.inl (List.mem_of_getElem? (i := 0) rfl))
  refine Goes.st (U' := T14.setTop (mkF m 81 #[.val (.ref a1), .val (.int (0 : Int32)), .val (.int p3), .val (.int (0 : Int32))] [])) (fun t k => st14 t k) ?_
  refine Goes.retV X14 hx (BodyLoose.notSynchronized Bd) Bd.returns (hb hby d5_81) (by decide) (by decide) ?_
  show Q_rmT0 Z a1 (0 : Int32) p3 arr k x0 x1 x2 h0 n0 _ T14.heap _
  rw [e14]
  exact ⟨rfl, N14, K_15, ⟨((((E_a1.wr W4).wr W7).wr W10).wr W14), ((((F_length_a1.other W4 (Or.inl ne_a1_arr)).other W7 (Or.inl ne_a1_arr)).other W10 (Or.inl ne_a1_arr)).other W14 (Or.inl ne_a1_arr)), ((((F_bytes_a1.other W4 (Or.inl ne_a1_arr)).other W7 (Or.inl ne_a1_arr)).other W10 (Or.inl ne_a1_arr)).other W14 (Or.inl ne_a1_arr)), ((((F_width_a1.other W4 (Or.inl ne_a1_arr)).other W7 (Or.inl ne_a1_arr)).other W10 (Or.inl ne_a1_arr)).other W14 (Or.inl ne_a1_arr)), V14, ne_a1_arr⟩⟩
theorem ef_rmT1 (m : MethodId) (a1 : Addr) (p2 : Int32) (p3 : Int32) : entryFrame m #[(.ref a1), (.int p2), (.int p3)] 4 = mkF m 0 #[.val (.ref a1), .val (.int p2), .val (.int p3), .unset] [] := by first | (simp [entryFrame, mkF, argsToLocals, Value.category]; done) | rfl
def Q_rmT1 (Z : State) (a1 : Addr) (p2 : Int32) (p3 : Int32) (arr : Addr) (k : ClassId) (x0 : Int32) (x1 : Int32) (x2 : Int32) (h0 : Heap) (n0 : Nat) (v : Option Value) (h : Heap) (L : List Loc) : Prop := v = none ∧ Fr n0 L ∧ Keep h0 h [arr] ∧ P4 Z h a1 arr k x0 p3 x2
set_option maxRecDepth 65536 in
set_option maxHeartbeats 40000000 in
theorem rmT1 (l : Launch) (Z : State) (a0 : Array Value) (hw : ∀ d ∈ tables_1, d.before a0 Z = true) (ws : List Jvm.Cond) (a1 : Addr) (p2 : Int32) (p3 : Int32) (arr : Addr) (k : ClassId) (x0 : Int32) (x1 : Int32) (x2 : Int32) (h0 : Heap) (n0 : Nat) (Z0 : n0 ≤ h0.size) (P : P4 Z h0 a1 arr k x0 x1 x2) (e2 : p2 = (1 : Int32)) (g_arr : n0 ≤ arr) :
    MetFree l (⟨"com/example/chaise/chaise/core/PackedInts", "set", "(II)V"⟩ : MethodName) (head1 (Jvm.Cond.code (⟨"com/example/chaise/chaise/core/PackedInts", "set", "(II)V"⟩ : MethodName) prog_81_method_6_code 4 none :: ws) ({ frames := 0, cells := 0, slots := 0, locals := 0 } : Room)) (fun a U => a = #[(.ref a1), (.int p2), (.int p3)] ∧ Z.Warmed39 U.vm ∧ U.heap = h0) (fun _ _ _ _ _ => True) (fun _ U o U' => ∃ v L, o = .returned v ∧ Q_rmT1 Z a1 (1 : Int32) p3 arr k x0 x1 x2 h0 n0 v U'.heap L ∧ FrameEnd U o U' L ({ frames := 0, cells := 0, slots := 0, locals := 0 } : Room).cells ({ frames := 0, cells := 0, slots := 0, locals := 0 } : Room).slots) := by
  refine MetFree.of_bodySF (plainFor_of_name pn_0) hisR ?_
  intro p e s m args below meth c s₁ Bd hml0 hP hK
  obtain ⟨rfl, hZ, hh⟩ := hP
  have hx := Bd.exec
  have hby := Bd.bytes
  have hml : c.maxLocals = 4 := hml0
  have hown : s.vm.findClass "com/example/chaise/chaise/core/PackedInts" = some m.cls := findClass_of_methodNamed Bd.named
  have hnm := (name_of_methodNamed Bd.named Bd.method).1
  have X0 : Stand p l e ({ frames := 0, cells := 0, slots := 0, locals := 0 } : Room) s m #[(.ref a1), (.int p2), (.int p3)] below meth c s₁ [] 0 0 := Stand.of_body Bd
  have e0 : s₁.heap = h0 := by rw [← hh, Bd.state]; rfl
  have N0 := Fr.nil n0
  show Goes p e s below (fun v h L => Q_rmT1 Z a1 (1 : Int32) p3 arr k x0 x1 x2 h0 n0 v h L) ({ frames := 0, cells := 0, slots := 0, locals := 0 } : Room).cells ({ frames := 0, cells := 0, slots := 0, locals := 0 } : Room).slots (s₁.setTop (entryFrame m #[(.ref a1), (.int p2), (.int p3)] 4))
  refine Goes.st (U' := s₁.setTop (mkF m 0 #[.val (.ref a1), .val (.int p2), .val (.int p3), .unset] [])) (fun t k => castTop (ef_rmT1 m a1 p2 p3) k) ?_
  subst e2
  obtain ⟨E_a1, F_length_a1, F_bytes_a1, F_width_a1, V_arr, ne_a1_arr⟩ := P
  refine Goes.st (U' := s₁.setTop (mkF m 1 #[.val (.ref a1), .val (.int (1 : Int32)), .val (.int p3), .unset] [(.ref a1)])) (fun t k => XS.aloadN X0.here hx rfl (hb hby d5_0) rfl rfl k) ?_
  obtain ⟨T1, X1, e1, st1⟩ := getF X0 hx hZ hown (host := "") (Or.inl (hw _ (List.mem_of_getElem? (i := 18) rfl))) Via.refl e0 F_width_a1 (g := (mkF m 1 #[.val (.ref a1), .val (.int (1 : Int32)), .val (.int p3), .unset] [(.ref a1)])) rfl rfl (hb hby d5_1)
  refine Goes.st (U' := T1.setTop (mkF m 4 #[.val (.ref a1), .val (.int (1 : Int32)), .val (.int p3), .unset] [(.int (4 : Int32))])) (fun t k => st1 t k) ?_
  refine Goes.st (U' := T1.setTop (mkF m 5 #[.val (.ref a1), .val (.int (1 : Int32)), .val (.int p3), .unset] [(.int (3 : Int32)), (.int (4 : Int32))])) (fun t k => XS.iconst X1.here hx rfl (hb hby d5_4) k) ?_
  refine Goes.st (U' := T1.setTop (mkF m 19 #[.val (.ref a1), .val (.int (1 : Int32)), .val (.int p3), .unset] [])) (fun t k => XS.icmpYes X1.here hx rfl (pc0 := 5) (pc' := 19) rfl (hb hby d5_5) rfl (feq (by decide : ¬ ((4 : Int32) = (3 : Int32)))).2 (by decide) (by decide) k) ?_
  refine Goes.st (U' := T1.setTop (mkF m 20 #[.val (.ref a1), .val (.int (1 : Int32)), .val (.int p3), .unset] [(.int (1 : Int32))])) (fun t k => XS.iloadN X1.here hx rfl (hb hby d5_19) rfl k) ?_
  refine Goes.st (U' := T1.setTop (mkF m 21 #[.val (.ref a1), .val (.int (1 : Int32)), .val (.int p3), .unset] [(.ref a1), (.int (1 : Int32))])) (fun t k => XS.aloadN X1.here hx rfl (hb hby d5_20) rfl rfl k) ?_
  obtain ⟨T2, X2, e2, st2⟩ := getF X1 hx hZ hown (host := "") (Or.inl (hw _ (List.mem_of_getElem? (i := 18) rfl))) Via.refl e1 F_width_a1 (g := (mkF m 21 #[.val (.ref a1), .val (.int (1 : Int32)), .val (.int p3), .unset] [(.ref a1), (.int (1 : Int32))])) rfl rfl (hb hby d5_21)
  refine Goes.st (U' := T2.setTop (mkF m 24 #[.val (.ref a1), .val (.int (1 : Int32)), .val (.int p3), .unset] [(.int (4 : Int32)), (.int (1 : Int32))])) (fun t k => st2 t k) ?_
  refine Goes.st (U' := T2.setTop (mkF m 25 #[.val (.ref a1), .val (.int (1 : Int32)), .val (.int p3), .unset] [(.int (4 : Int32))])) (fun t k => XS.imul X2.here hx rfl (hb hby d5_24) rfl k) ?_
  refine Goes.st (U' := T2.setTop (mkF m 26 #[.val (.ref a1), .val (.int (1 : Int32)), .val (.int p3), .val (.int (4 : Int32))] [])) (fun t k => XS.istoreN X2.here hx rfl (hb hby d5_25) rfl (l' := #[.val (.ref a1), .val (.int (1 : Int32)), .val (.int p3), .val (.int (4 : Int32))]) rfl k) ?_
  refine Goes.st (U' := T2.setTop (mkF m 27 #[.val (.ref a1), .val (.int (1 : Int32)), .val (.int p3), .val (.int (4 : Int32))] [(.ref a1)])) (fun t k => XS.aloadN X2.here hx rfl (hb hby d5_26) rfl rfl k) ?_
  obtain ⟨T3, X3, e3, st3⟩ := getF X2 hx hZ hown (host := "") (Or.inl (hw _ (List.mem_of_getElem? (i := 16) rfl))) Via.refl e2 F_bytes_a1 (g := (mkF m 27 #[.val (.ref a1), .val (.int (1 : Int32)), .val (.int p3), .val (.int (4 : Int32))] [(.ref a1)])) rfl rfl (hb hby d5_27)
  refine Goes.st (U' := T3.setTop (mkF m 30 #[.val (.ref a1), .val (.int (1 : Int32)), .val (.int p3), .val (.int (4 : Int32))] [(.ref arr)])) (fun t k => st3 t k) ?_
  refine Goes.st (U' := T3.setTop (mkF m 31 #[.val (.ref a1), .val (.int (1 : Int32)), .val (.int p3), .val (.int (4 : Int32))] [(.int (4 : Int32)), (.ref arr)])) (fun t k => XS.iloadN X3.here hx rfl (hb hby d5_30) rfl k) ?_
  refine Goes.st (U' := T3.setTop (mkF m 32 #[.val (.ref a1), .val (.int (1 : Int32)), .val (.int p3), .val (.int (4 : Int32))] [(.int p3), (.int (4 : Int32)), (.ref arr)])) (fun t k => XS.iloadN X3.here hx rfl (hb hby d5_31) rfl k) ?_
  refine Goes.st (U' := T3.setTop (mkF m 33 #[.val (.ref a1), .val (.int (1 : Int32)), .val (.int p3), .val (.int (4 : Int32))] [(.int (p3.toInt8.toInt32)), (.int (4 : Int32)), (.ref arr)])) (fun t k => XS.i2b X3.here hx rfl (hb hby d5_32) rfl k) ?_
  have Vx4 := V_arr
  obtain ⟨cl4, Ar4, qa4, S4, Nn4, H4, G4⟩ := Vx4
  have hin4 : ¬ ((4 : Int32) < 0 ∨ cl4.slots.size ≤ ((4 : Int32)).toNatClampNeg) := inb_of S4 ⟨by decide, by decide⟩
  obtain ⟨T4, h4, X4, e4, W4, st4⟩ := stB X3 hx hZ e3 Ar4 (j := (4 : Int32)) hin4 (g := (mkF m 33 #[.val (.ref a1), .val (.int (1 : Int32)), .val (.int p3), .val (.int (4 : Int32))] [(.int (p3.toInt8.toInt32)), (.int (4 : Int32)), (.ref arr)])) rfl rfl (hb hby d5_33)
  have V4 : Arv Z h4 arr k .byte (12 : Int32) [(.int (own_b0 x0)), (.int (own_b1 x0)), (.int (own_b2 x0)), (.int (own_b3 x0)), (.int ((p3.toInt8.toInt32).toInt8.toInt32)), (.int (own_b1 x1)), (.int (own_b2 x1)), (.int (own_b3 x1)), (.int (own_b0 x2)), (.int (own_b1 x2)), (.int (own_b2 x2)), (.int (own_b3 x2))] (.int (0 : Int32)) := Arv.set Ar4 qa4 S4 Nn4 H4 G4 (fits_nar_byte _) W4 4 rfl (Nat.le_of_ble_eq_true rfl)
  have N4 := Fr.snoc X4 N0 g_arr
  have K_5 : Keep h0 h4 [arr] := (Keep.refl h0 [arr]).wr W4 (Or.inl (List.mem_of_getElem? (i := 0) rfl))
  refine Goes.st (U' := T4.setTop (mkF m 34 #[.val (.ref a1), .val (.int (1 : Int32)), .val (.int p3), .val (.int (4 : Int32))] [])) (fun t k => st4 t k) ?_
  refine Goes.st (U' := T4.setTop (mkF m 35 #[.val (.ref a1), .val (.int (1 : Int32)), .val (.int p3), .val (.int (4 : Int32))] [(.ref a1)])) (fun t k => XS.aloadN X4.here hx rfl (hb hby d5_34) rfl rfl k) ?_
  obtain ⟨T6, X6, e6, st6⟩ := getF X4 hx hZ hown (host := "") (Or.inl (hw _ (List.mem_of_getElem? (i := 16) rfl))) Via.refl e4 (F_bytes_a1.other W4 (Or.inl ne_a1_arr)) (g := (mkF m 35 #[.val (.ref a1), .val (.int (1 : Int32)), .val (.int p3), .val (.int (4 : Int32))] [(.ref a1)])) rfl rfl (hb hby d5_35)
  refine Goes.st (U' := T6.setTop (mkF m 38 #[.val (.ref a1), .val (.int (1 : Int32)), .val (.int p3), .val (.int (4 : Int32))] [(.ref arr)])) (fun t k => st6 t k) ?_
  refine Goes.st (U' := T6.setTop (mkF m 39 #[.val (.ref a1), .val (.int (1 : Int32)), .val (.int p3), .val (.int (4 : Int32))] [(.int (4 : Int32)), (.ref arr)])) (fun t k => XS.iloadN X6.here hx rfl (hb hby d5_38) rfl k) ?_
  refine Goes.st (U' := T6.setTop (mkF m 40 #[.val (.ref a1), .val (.int (1 : Int32)), .val (.int p3), .val (.int (4 : Int32))] [(.int (1 : Int32)), (.int (4 : Int32)), (.ref arr)])) (fun t k => XS.iconst X6.here hx rfl (hb hby d5_39) k) ?_
  refine Goes.st (U' := T6.setTop (mkF m 41 #[.val (.ref a1), .val (.int (1 : Int32)), .val (.int p3), .val (.int (4 : Int32))] [(.int (5 : Int32)), (.ref arr)])) (fun t k => XS.iadd X6.here hx rfl (hb hby d5_40) rfl k) ?_
  refine Goes.st (U' := T6.setTop (mkF m 42 #[.val (.ref a1), .val (.int (1 : Int32)), .val (.int p3), .val (.int (4 : Int32))] [(.int p3), (.int (5 : Int32)), (.ref arr)])) (fun t k => XS.iloadN X6.here hx rfl (hb hby d5_41) rfl k) ?_
  refine Goes.st (U' := T6.setTop (mkF m 44 #[.val (.ref a1), .val (.int (1 : Int32)), .val (.int p3), .val (.int (4 : Int32))] [(.int (8 : Int32)), (.int p3), (.int (5 : Int32)), (.ref arr)])) (fun t k => XS.bipush X6.here hx rfl (hb hby d5_42) k) ?_
  refine Goes.st (U' := T6.setTop (mkF m 45 #[.val (.ref a1), .val (.int (1 : Int32)), .val (.int p3), .val (.int (4 : Int32))] [(.int (p3 >>> ((8 : Int32) &&& 31))), (.int (5 : Int32)), (.ref arr)])) (fun t k => XS.ishr X6.here hx rfl (hb hby d5_44) rfl k) ?_
  refine Goes.st (U' := T6.setTop (mkF m 46 #[.val (.ref a1), .val (.int (1 : Int32)), .val (.int p3), .val (.int (4 : Int32))] [(.int ((p3 >>> ((8 : Int32) &&& 31)).toInt8.toInt32)), (.int (5 : Int32)), (.ref arr)])) (fun t k => XS.i2b X6.here hx rfl (hb hby d5_45) rfl k) ?_
  have Vx7 := V4
  obtain ⟨cl7, Ar7, qa7, S7, Nn7, H7, G7⟩ := Vx7
  have hin7 : ¬ ((5 : Int32) < 0 ∨ cl7.slots.size ≤ ((5 : Int32)).toNatClampNeg) := inb_of S7 ⟨by decide, by decide⟩
  obtain ⟨T7, h7, X7, e7, W7, st7⟩ := stB X6 hx hZ e6 Ar7 (j := (5 : Int32)) hin7 (g := (mkF m 46 #[.val (.ref a1), .val (.int (1 : Int32)), .val (.int p3), .val (.int (4 : Int32))] [(.int ((p3 >>> ((8 : Int32) &&& 31)).toInt8.toInt32)), (.int (5 : Int32)), (.ref arr)])) rfl rfl (hb hby d5_46)
  have V7 : Arv Z h7 arr k .byte (12 : Int32) [(.int (own_b0 x0)), (.int (own_b1 x0)), (.int (own_b2 x0)), (.int (own_b3 x0)), (.int ((p3.toInt8.toInt32).toInt8.toInt32)), (.int (((p3 >>> ((8 : Int32) &&& 31)).toInt8.toInt32).toInt8.toInt32)), (.int (own_b2 x1)), (.int (own_b3 x1)), (.int (own_b0 x2)), (.int (own_b1 x2)), (.int (own_b2 x2)), (.int (own_b3 x2))] (.int (0 : Int32)) := Arv.set Ar7 qa7 S7 Nn7 H7 G7 (fits_nar_byte _) W7 5 rfl (Nat.le_of_ble_eq_true rfl)
  have N7 := Fr.snoc X7 N4 g_arr
  have K_8 : Keep h0 h7 [arr] := K_5.wr W7 (Or.inl (List.mem_of_getElem? (i := 0) rfl))
  refine Goes.st (U' := T7.setTop (mkF m 47 #[.val (.ref a1), .val (.int (1 : Int32)), .val (.int p3), .val (.int (4 : Int32))] [])) (fun t k => st7 t k) ?_
  refine Goes.st (U' := T7.setTop (mkF m 48 #[.val (.ref a1), .val (.int (1 : Int32)), .val (.int p3), .val (.int (4 : Int32))] [(.ref a1)])) (fun t k => XS.aloadN X7.here hx rfl (hb hby d5_47) rfl rfl k) ?_
  obtain ⟨T9, X9, e9, st9⟩ := getF X7 hx hZ hown (host := "") (Or.inl (hw _ (List.mem_of_getElem? (i := 16) rfl))) Via.refl e7 ((F_bytes_a1.other W4 (Or.inl ne_a1_arr)).other W7 (Or.inl ne_a1_arr)) (g := (mkF m 48 #[.val (.ref a1), .val (.int (1 : Int32)), .val (.int p3), .val (.int (4 : Int32))] [(.ref a1)])) rfl rfl (hb hby d5_48)
  refine Goes.st (U' := T9.setTop (mkF m 51 #[.val (.ref a1), .val (.int (1 : Int32)), .val (.int p3), .val (.int (4 : Int32))] [(.ref arr)])) (fun t k => st9 t k) ?_
  refine Goes.st (U' := T9.setTop (mkF m 52 #[.val (.ref a1), .val (.int (1 : Int32)), .val (.int p3), .val (.int (4 : Int32))] [(.int (4 : Int32)), (.ref arr)])) (fun t k => XS.iloadN X9.here hx rfl (hb hby d5_51) rfl k) ?_
  refine Goes.st (U' := T9.setTop (mkF m 53 #[.val (.ref a1), .val (.int (1 : Int32)), .val (.int p3), .val (.int (4 : Int32))] [(.int (2 : Int32)), (.int (4 : Int32)), (.ref arr)])) (fun t k => XS.iconst X9.here hx rfl (hb hby d5_52) k) ?_
  refine Goes.st (U' := T9.setTop (mkF m 54 #[.val (.ref a1), .val (.int (1 : Int32)), .val (.int p3), .val (.int (4 : Int32))] [(.int (6 : Int32)), (.ref arr)])) (fun t k => XS.iadd X9.here hx rfl (hb hby d5_53) rfl k) ?_
  refine Goes.st (U' := T9.setTop (mkF m 55 #[.val (.ref a1), .val (.int (1 : Int32)), .val (.int p3), .val (.int (4 : Int32))] [(.int p3), (.int (6 : Int32)), (.ref arr)])) (fun t k => XS.iloadN X9.here hx rfl (hb hby d5_54) rfl k) ?_
  refine Goes.st (U' := T9.setTop (mkF m 57 #[.val (.ref a1), .val (.int (1 : Int32)), .val (.int p3), .val (.int (4 : Int32))] [(.int (16 : Int32)), (.int p3), (.int (6 : Int32)), (.ref arr)])) (fun t k => XS.bipush X9.here hx rfl (hb hby d5_55) k) ?_
  refine Goes.st (U' := T9.setTop (mkF m 58 #[.val (.ref a1), .val (.int (1 : Int32)), .val (.int p3), .val (.int (4 : Int32))] [(.int (p3 >>> ((16 : Int32) &&& 31))), (.int (6 : Int32)), (.ref arr)])) (fun t k => XS.ishr X9.here hx rfl (hb hby d5_57) rfl k) ?_
  refine Goes.st (U' := T9.setTop (mkF m 59 #[.val (.ref a1), .val (.int (1 : Int32)), .val (.int p3), .val (.int (4 : Int32))] [(.int ((p3 >>> ((16 : Int32) &&& 31)).toInt8.toInt32)), (.int (6 : Int32)), (.ref arr)])) (fun t k => XS.i2b X9.here hx rfl (hb hby d5_58) rfl k) ?_
  have Vx10 := V7
  obtain ⟨cl10, Ar10, qa10, S10, Nn10, H10, G10⟩ := Vx10
  have hin10 : ¬ ((6 : Int32) < 0 ∨ cl10.slots.size ≤ ((6 : Int32)).toNatClampNeg) := inb_of S10 ⟨by decide, by decide⟩
  obtain ⟨T10, h10, X10, e10, W10, st10⟩ := stB X9 hx hZ e9 Ar10 (j := (6 : Int32)) hin10 (g := (mkF m 59 #[.val (.ref a1), .val (.int (1 : Int32)), .val (.int p3), .val (.int (4 : Int32))] [(.int ((p3 >>> ((16 : Int32) &&& 31)).toInt8.toInt32)), (.int (6 : Int32)), (.ref arr)])) rfl rfl (hb hby d5_59)
  have V10 : Arv Z h10 arr k .byte (12 : Int32) [(.int (own_b0 x0)), (.int (own_b1 x0)), (.int (own_b2 x0)), (.int (own_b3 x0)), (.int ((p3.toInt8.toInt32).toInt8.toInt32)), (.int (((p3 >>> ((8 : Int32) &&& 31)).toInt8.toInt32).toInt8.toInt32)), (.int (((p3 >>> ((16 : Int32) &&& 31)).toInt8.toInt32).toInt8.toInt32)), (.int (own_b3 x1)), (.int (own_b0 x2)), (.int (own_b1 x2)), (.int (own_b2 x2)), (.int (own_b3 x2))] (.int (0 : Int32)) := Arv.set Ar10 qa10 S10 Nn10 H10 G10 (fits_nar_byte _) W10 6 rfl (Nat.le_of_ble_eq_true rfl)
  have N10 := Fr.snoc X10 N7 g_arr
  have K_11 : Keep h0 h10 [arr] := K_8.wr W10 (Or.inl (List.mem_of_getElem? (i := 0) rfl))
  refine Goes.st (U' := T10.setTop (mkF m 60 #[.val (.ref a1), .val (.int (1 : Int32)), .val (.int p3), .val (.int (4 : Int32))] [])) (fun t k => st10 t k) ?_
  refine Goes.st (U' := T10.setTop (mkF m 61 #[.val (.ref a1), .val (.int (1 : Int32)), .val (.int p3), .val (.int (4 : Int32))] [(.ref a1)])) (fun t k => XS.aloadN X10.here hx rfl (hb hby d5_60) rfl rfl k) ?_
  obtain ⟨T12, X12, e12, st12⟩ := getF X10 hx hZ hown (host := "") (Or.inl (hw _ (List.mem_of_getElem? (i := 18) rfl))) Via.refl e10 (((F_width_a1.other W4 (Or.inl ne_a1_arr)).other W7 (Or.inl ne_a1_arr)).other W10 (Or.inl ne_a1_arr)) (g := (mkF m 61 #[.val (.ref a1), .val (.int (1 : Int32)), .val (.int p3), .val (.int (4 : Int32))] [(.ref a1)])) rfl rfl (hb hby d5_61)
  refine Goes.st (U' := T12.setTop (mkF m 64 #[.val (.ref a1), .val (.int (1 : Int32)), .val (.int p3), .val (.int (4 : Int32))] [(.int (4 : Int32))])) (fun t k => st12 t k) ?_
  refine Goes.st (U' := T12.setTop (mkF m 65 #[.val (.ref a1), .val (.int (1 : Int32)), .val (.int p3), .val (.int (4 : Int32))] [(.int (4 : Int32)), (.int (4 : Int32))])) (fun t k => XS.iconst X12.here hx rfl (hb hby d5_64) k) ?_
  refine Goes.st (U' := T12.setTop (mkF m 68 #[.val (.ref a1), .val (.int (1 : Int32)), .val (.int p3), .val (.int (4 : Int32))] [])) (fun t k => XS.icmpNo X12.here hx rfl (hb hby d5_65) rfl (teq (rfl : (4 : Int32) = (4 : Int32))).2 k) ?_
  refine Goes.st (U' := T12.setTop (mkF m 69 #[.val (.ref a1), .val (.int (1 : Int32)), .val (.int p3), .val (.int (4 : Int32))] [(.ref a1)])) (fun t k => XS.aloadN X12.here hx rfl (hb hby d5_68) rfl rfl k) ?_
  obtain ⟨T13, X13, e13, st13⟩ := getF X12 hx hZ hown (host := "") (Or.inl (hw _ (List.mem_of_getElem? (i := 16) rfl))) Via.refl e12 (((F_bytes_a1.other W4 (Or.inl ne_a1_arr)).other W7 (Or.inl ne_a1_arr)).other W10 (Or.inl ne_a1_arr)) (g := (mkF m 69 #[.val (.ref a1), .val (.int (1 : Int32)), .val (.int p3), .val (.int (4 : Int32))] [(.ref a1)])) rfl rfl (hb hby d5_69)
  refine Goes.st (U' := T13.setTop (mkF m 72 #[.val (.ref a1), .val (.int (1 : Int32)), .val (.int p3), .val (.int (4 : Int32))] [(.ref arr)])) (fun t k => st13 t k) ?_
  refine Goes.st (U' := T13.setTop (mkF m 73 #[.val (.ref a1), .val (.int (1 : Int32)), .val (.int p3), .val (.int (4 : Int32))] [(.int (4 : Int32)), (.ref arr)])) (fun t k => XS.iloadN X13.here hx rfl (hb hby d5_72) rfl k) ?_
  refine Goes.st (U' := T13.setTop (mkF m 74 #[.val (.ref a1), .val (.int (1 : Int32)), .val (.int p3), .val (.int (4 : Int32))] [(.int (3 : Int32)), (.int (4 : Int32)), (.ref arr)])) (fun t k => XS.iconst X13.here hx rfl (hb hby d5_73) k) ?_
  refine Goes.st (U' := T13.setTop (mkF m 75 #[.val (.ref a1), .val (.int (1 : Int32)), .val (.int p3), .val (.int (4 : Int32))] [(.int (7 : Int32)), (.ref arr)])) (fun t k => XS.iadd X13.here hx rfl (hb hby d5_74) rfl k) ?_
  refine Goes.st (U' := T13.setTop (mkF m 76 #[.val (.ref a1), .val (.int (1 : Int32)), .val (.int p3), .val (.int (4 : Int32))] [(.int p3), (.int (7 : Int32)), (.ref arr)])) (fun t k => XS.iloadN X13.here hx rfl (hb hby d5_75) rfl k) ?_
  refine Goes.st (U' := T13.setTop (mkF m 78 #[.val (.ref a1), .val (.int (1 : Int32)), .val (.int p3), .val (.int (4 : Int32))] [(.int (24 : Int32)), (.int p3), (.int (7 : Int32)), (.ref arr)])) (fun t k => XS.bipush X13.here hx rfl (hb hby d5_76) k) ?_
  refine Goes.st (U' := T13.setTop (mkF m 79 #[.val (.ref a1), .val (.int (1 : Int32)), .val (.int p3), .val (.int (4 : Int32))] [(.int (p3 >>> ((24 : Int32) &&& 31))), (.int (7 : Int32)), (.ref arr)])) (fun t k => XS.ishr X13.here hx rfl (hb hby d5_78) rfl k) ?_
  refine Goes.st (U' := T13.setTop (mkF m 80 #[.val (.ref a1), .val (.int (1 : Int32)), .val (.int p3), .val (.int (4 : Int32))] [(.int ((p3 >>> ((24 : Int32) &&& 31)).toInt8.toInt32)), (.int (7 : Int32)), (.ref arr)])) (fun t k => XS.i2b X13.here hx rfl (hb hby d5_79) rfl k) ?_
  have Vx14 := V10
  obtain ⟨cl14, Ar14, qa14, S14, Nn14, H14, G14⟩ := Vx14
  have hin14 : ¬ ((7 : Int32) < 0 ∨ cl14.slots.size ≤ ((7 : Int32)).toNatClampNeg) := inb_of S14 ⟨by decide, by decide⟩
  obtain ⟨T14, h14, X14, e14, W14, st14⟩ := stB X13 hx hZ e13 Ar14 (j := (7 : Int32)) hin14 (g := (mkF m 80 #[.val (.ref a1), .val (.int (1 : Int32)), .val (.int p3), .val (.int (4 : Int32))] [(.int ((p3 >>> ((24 : Int32) &&& 31)).toInt8.toInt32)), (.int (7 : Int32)), (.ref arr)])) rfl rfl (hb hby d5_80)
  have V14 : Arv Z h14 arr k .byte (12 : Int32) [(.int (own_b0 x0)), (.int (own_b1 x0)), (.int (own_b2 x0)), (.int (own_b3 x0)), (.int ((p3.toInt8.toInt32).toInt8.toInt32)), (.int (((p3 >>> ((8 : Int32) &&& 31)).toInt8.toInt32).toInt8.toInt32)), (.int (((p3 >>> ((16 : Int32) &&& 31)).toInt8.toInt32).toInt8.toInt32)), (.int (((p3 >>> ((24 : Int32) &&& 31)).toInt8.toInt32).toInt8.toInt32)), (.int (own_b0 x2)), (.int (own_b1 x2)), (.int (own_b2 x2)), (.int (own_b3 x2))] (.int (0 : Int32)) := Arv.set Ar14 qa14 S14 Nn14 H14 G14 (fits_nar_byte _) W14 7 rfl (Nat.le_of_ble_eq_true rfl)
  have N14 := Fr.snoc X14 N10 g_arr
  have K_15 : Keep h0 h14 [arr] := K_11.wr W14 (Or.inl (List.mem_of_getElem? (i := 0) rfl))
  refine Goes.st (U' := T14.setTop (mkF m 81 #[.val (.ref a1), .val (.int (1 : Int32)), .val (.int p3), .val (.int (4 : Int32))] [])) (fun t k => st14 t k) ?_
  refine Goes.retV X14 hx (BodyLoose.notSynchronized Bd) Bd.returns (hb hby d5_81) (by decide) (by decide) ?_
  show Q_rmT1 Z a1 (1 : Int32) p3 arr k x0 x1 x2 h0 n0 _ T14.heap _
  rw [e14]
  exact ⟨rfl, N14, K_15, ⟨((((E_a1.wr W4).wr W7).wr W10).wr W14), ((((F_length_a1.other W4 (Or.inl ne_a1_arr)).other W7 (Or.inl ne_a1_arr)).other W10 (Or.inl ne_a1_arr)).other W14 (Or.inl ne_a1_arr)), ((((F_bytes_a1.other W4 (Or.inl ne_a1_arr)).other W7 (Or.inl ne_a1_arr)).other W10 (Or.inl ne_a1_arr)).other W14 (Or.inl ne_a1_arr)), ((((F_width_a1.other W4 (Or.inl ne_a1_arr)).other W7 (Or.inl ne_a1_arr)).other W10 (Or.inl ne_a1_arr)).other W14 (Or.inl ne_a1_arr)), V14, ne_a1_arr⟩⟩
theorem ef_rmT2 (m : MethodId) (a1 : Addr) (p2 : Int32) (p3 : Int32) : entryFrame m #[(.ref a1), (.int p2), (.int p3)] 4 = mkF m 0 #[.val (.ref a1), .val (.int p2), .val (.int p3), .unset] [] := by first | (simp [entryFrame, mkF, argsToLocals, Value.category]; done) | rfl
def Q_rmT2 (Z : State) (a1 : Addr) (p2 : Int32) (p3 : Int32) (arr : Addr) (k : ClassId) (x0 : Int32) (x1 : Int32) (x2 : Int32) (h0 : Heap) (n0 : Nat) (v : Option Value) (h : Heap) (L : List Loc) : Prop := v = none ∧ Fr n0 L ∧ Keep h0 h [arr] ∧ P4 Z h a1 arr k x0 x1 p3
set_option maxRecDepth 65536 in
set_option maxHeartbeats 40000000 in
theorem rmT2 (l : Launch) (Z : State) (a0 : Array Value) (hw : ∀ d ∈ tables_1, d.before a0 Z = true) (ws : List Jvm.Cond) (a1 : Addr) (p2 : Int32) (p3 : Int32) (arr : Addr) (k : ClassId) (x0 : Int32) (x1 : Int32) (x2 : Int32) (h0 : Heap) (n0 : Nat) (Z0 : n0 ≤ h0.size) (P : P4 Z h0 a1 arr k x0 x1 x2) (e2 : p2 = (2 : Int32)) (g_arr : n0 ≤ arr) :
    MetFree l (⟨"com/example/chaise/chaise/core/PackedInts", "set", "(II)V"⟩ : MethodName) (head1 (Jvm.Cond.code (⟨"com/example/chaise/chaise/core/PackedInts", "set", "(II)V"⟩ : MethodName) prog_81_method_6_code 4 none :: ws) ({ frames := 0, cells := 0, slots := 0, locals := 0 } : Room)) (fun a U => a = #[(.ref a1), (.int p2), (.int p3)] ∧ Z.Warmed39 U.vm ∧ U.heap = h0) (fun _ _ _ _ _ => True) (fun _ U o U' => ∃ v L, o = .returned v ∧ Q_rmT2 Z a1 (2 : Int32) p3 arr k x0 x1 x2 h0 n0 v U'.heap L ∧ FrameEnd U o U' L ({ frames := 0, cells := 0, slots := 0, locals := 0 } : Room).cells ({ frames := 0, cells := 0, slots := 0, locals := 0 } : Room).slots) := by
  refine MetFree.of_bodySF (plainFor_of_name pn_0) hisR ?_
  intro p e s m args below meth c s₁ Bd hml0 hP hK
  obtain ⟨rfl, hZ, hh⟩ := hP
  have hx := Bd.exec
  have hby := Bd.bytes
  have hml : c.maxLocals = 4 := hml0
  have hown : s.vm.findClass "com/example/chaise/chaise/core/PackedInts" = some m.cls := findClass_of_methodNamed Bd.named
  have hnm := (name_of_methodNamed Bd.named Bd.method).1
  have X0 : Stand p l e ({ frames := 0, cells := 0, slots := 0, locals := 0 } : Room) s m #[(.ref a1), (.int p2), (.int p3)] below meth c s₁ [] 0 0 := Stand.of_body Bd
  have e0 : s₁.heap = h0 := by rw [← hh, Bd.state]; rfl
  have N0 := Fr.nil n0
  show Goes p e s below (fun v h L => Q_rmT2 Z a1 (2 : Int32) p3 arr k x0 x1 x2 h0 n0 v h L) ({ frames := 0, cells := 0, slots := 0, locals := 0 } : Room).cells ({ frames := 0, cells := 0, slots := 0, locals := 0 } : Room).slots (s₁.setTop (entryFrame m #[(.ref a1), (.int p2), (.int p3)] 4))
  refine Goes.st (U' := s₁.setTop (mkF m 0 #[.val (.ref a1), .val (.int p2), .val (.int p3), .unset] [])) (fun t k => castTop (ef_rmT2 m a1 p2 p3) k) ?_
  subst e2
  obtain ⟨E_a1, F_length_a1, F_bytes_a1, F_width_a1, V_arr, ne_a1_arr⟩ := P
  refine Goes.st (U' := s₁.setTop (mkF m 1 #[.val (.ref a1), .val (.int (2 : Int32)), .val (.int p3), .unset] [(.ref a1)])) (fun t k => XS.aloadN X0.here hx rfl (hb hby d5_0) rfl rfl k) ?_
  obtain ⟨T1, X1, e1, st1⟩ := getF X0 hx hZ hown (host := "") (Or.inl (hw _ (List.mem_of_getElem? (i := 18) rfl))) Via.refl e0 F_width_a1 (g := (mkF m 1 #[.val (.ref a1), .val (.int (2 : Int32)), .val (.int p3), .unset] [(.ref a1)])) rfl rfl (hb hby d5_1)
  refine Goes.st (U' := T1.setTop (mkF m 4 #[.val (.ref a1), .val (.int (2 : Int32)), .val (.int p3), .unset] [(.int (4 : Int32))])) (fun t k => st1 t k) ?_
  refine Goes.st (U' := T1.setTop (mkF m 5 #[.val (.ref a1), .val (.int (2 : Int32)), .val (.int p3), .unset] [(.int (3 : Int32)), (.int (4 : Int32))])) (fun t k => XS.iconst X1.here hx rfl (hb hby d5_4) k) ?_
  refine Goes.st (U' := T1.setTop (mkF m 19 #[.val (.ref a1), .val (.int (2 : Int32)), .val (.int p3), .unset] [])) (fun t k => XS.icmpYes X1.here hx rfl (pc0 := 5) (pc' := 19) rfl (hb hby d5_5) rfl (feq (by decide : ¬ ((4 : Int32) = (3 : Int32)))).2 (by decide) (by decide) k) ?_
  refine Goes.st (U' := T1.setTop (mkF m 20 #[.val (.ref a1), .val (.int (2 : Int32)), .val (.int p3), .unset] [(.int (2 : Int32))])) (fun t k => XS.iloadN X1.here hx rfl (hb hby d5_19) rfl k) ?_
  refine Goes.st (U' := T1.setTop (mkF m 21 #[.val (.ref a1), .val (.int (2 : Int32)), .val (.int p3), .unset] [(.ref a1), (.int (2 : Int32))])) (fun t k => XS.aloadN X1.here hx rfl (hb hby d5_20) rfl rfl k) ?_
  obtain ⟨T2, X2, e2, st2⟩ := getF X1 hx hZ hown (host := "") (Or.inl (hw _ (List.mem_of_getElem? (i := 18) rfl))) Via.refl e1 F_width_a1 (g := (mkF m 21 #[.val (.ref a1), .val (.int (2 : Int32)), .val (.int p3), .unset] [(.ref a1), (.int (2 : Int32))])) rfl rfl (hb hby d5_21)
  refine Goes.st (U' := T2.setTop (mkF m 24 #[.val (.ref a1), .val (.int (2 : Int32)), .val (.int p3), .unset] [(.int (4 : Int32)), (.int (2 : Int32))])) (fun t k => st2 t k) ?_
  refine Goes.st (U' := T2.setTop (mkF m 25 #[.val (.ref a1), .val (.int (2 : Int32)), .val (.int p3), .unset] [(.int (8 : Int32))])) (fun t k => XS.imul X2.here hx rfl (hb hby d5_24) rfl k) ?_
  refine Goes.st (U' := T2.setTop (mkF m 26 #[.val (.ref a1), .val (.int (2 : Int32)), .val (.int p3), .val (.int (8 : Int32))] [])) (fun t k => XS.istoreN X2.here hx rfl (hb hby d5_25) rfl (l' := #[.val (.ref a1), .val (.int (2 : Int32)), .val (.int p3), .val (.int (8 : Int32))]) rfl k) ?_
  refine Goes.st (U' := T2.setTop (mkF m 27 #[.val (.ref a1), .val (.int (2 : Int32)), .val (.int p3), .val (.int (8 : Int32))] [(.ref a1)])) (fun t k => XS.aloadN X2.here hx rfl (hb hby d5_26) rfl rfl k) ?_
  obtain ⟨T3, X3, e3, st3⟩ := getF X2 hx hZ hown (host := "") (Or.inl (hw _ (List.mem_of_getElem? (i := 16) rfl))) Via.refl e2 F_bytes_a1 (g := (mkF m 27 #[.val (.ref a1), .val (.int (2 : Int32)), .val (.int p3), .val (.int (8 : Int32))] [(.ref a1)])) rfl rfl (hb hby d5_27)
  refine Goes.st (U' := T3.setTop (mkF m 30 #[.val (.ref a1), .val (.int (2 : Int32)), .val (.int p3), .val (.int (8 : Int32))] [(.ref arr)])) (fun t k => st3 t k) ?_
  refine Goes.st (U' := T3.setTop (mkF m 31 #[.val (.ref a1), .val (.int (2 : Int32)), .val (.int p3), .val (.int (8 : Int32))] [(.int (8 : Int32)), (.ref arr)])) (fun t k => XS.iloadN X3.here hx rfl (hb hby d5_30) rfl k) ?_
  refine Goes.st (U' := T3.setTop (mkF m 32 #[.val (.ref a1), .val (.int (2 : Int32)), .val (.int p3), .val (.int (8 : Int32))] [(.int p3), (.int (8 : Int32)), (.ref arr)])) (fun t k => XS.iloadN X3.here hx rfl (hb hby d5_31) rfl k) ?_
  refine Goes.st (U' := T3.setTop (mkF m 33 #[.val (.ref a1), .val (.int (2 : Int32)), .val (.int p3), .val (.int (8 : Int32))] [(.int (p3.toInt8.toInt32)), (.int (8 : Int32)), (.ref arr)])) (fun t k => XS.i2b X3.here hx rfl (hb hby d5_32) rfl k) ?_
  have Vx4 := V_arr
  obtain ⟨cl4, Ar4, qa4, S4, Nn4, H4, G4⟩ := Vx4
  have hin4 : ¬ ((8 : Int32) < 0 ∨ cl4.slots.size ≤ ((8 : Int32)).toNatClampNeg) := inb_of S4 ⟨by decide, by decide⟩
  obtain ⟨T4, h4, X4, e4, W4, st4⟩ := stB X3 hx hZ e3 Ar4 (j := (8 : Int32)) hin4 (g := (mkF m 33 #[.val (.ref a1), .val (.int (2 : Int32)), .val (.int p3), .val (.int (8 : Int32))] [(.int (p3.toInt8.toInt32)), (.int (8 : Int32)), (.ref arr)])) rfl rfl (hb hby d5_33)
  have V4 : Arv Z h4 arr k .byte (12 : Int32) [(.int (own_b0 x0)), (.int (own_b1 x0)), (.int (own_b2 x0)), (.int (own_b3 x0)), (.int (own_b0 x1)), (.int (own_b1 x1)), (.int (own_b2 x1)), (.int (own_b3 x1)), (.int ((p3.toInt8.toInt32).toInt8.toInt32)), (.int (own_b1 x2)), (.int (own_b2 x2)), (.int (own_b3 x2))] (.int (0 : Int32)) := Arv.set Ar4 qa4 S4 Nn4 H4 G4 (fits_nar_byte _) W4 8 rfl (Nat.le_of_ble_eq_true rfl)
  have N4 := Fr.snoc X4 N0 g_arr
  have K_5 : Keep h0 h4 [arr] := (Keep.refl h0 [arr]).wr W4 (Or.inl (List.mem_of_getElem? (i := 0) rfl))
  refine Goes.st (U' := T4.setTop (mkF m 34 #[.val (.ref a1), .val (.int (2 : Int32)), .val (.int p3), .val (.int (8 : Int32))] [])) (fun t k => st4 t k) ?_
  refine Goes.st (U' := T4.setTop (mkF m 35 #[.val (.ref a1), .val (.int (2 : Int32)), .val (.int p3), .val (.int (8 : Int32))] [(.ref a1)])) (fun t k => XS.aloadN X4.here hx rfl (hb hby d5_34) rfl rfl k) ?_
  obtain ⟨T6, X6, e6, st6⟩ := getF X4 hx hZ hown (host := "") (Or.inl (hw _ (List.mem_of_getElem? (i := 16) rfl))) Via.refl e4 (F_bytes_a1.other W4 (Or.inl ne_a1_arr)) (g := (mkF m 35 #[.val (.ref a1), .val (.int (2 : Int32)), .val (.int p3), .val (.int (8 : Int32))] [(.ref a1)])) rfl rfl (hb hby d5_35)
  refine Goes.st (U' := T6.setTop (mkF m 38 #[.val (.ref a1), .val (.int (2 : Int32)), .val (.int p3), .val (.int (8 : Int32))] [(.ref arr)])) (fun t k => st6 t k) ?_
  refine Goes.st (U' := T6.setTop (mkF m 39 #[.val (.ref a1), .val (.int (2 : Int32)), .val (.int p3), .val (.int (8 : Int32))] [(.int (8 : Int32)), (.ref arr)])) (fun t k => XS.iloadN X6.here hx rfl (hb hby d5_38) rfl k) ?_
  refine Goes.st (U' := T6.setTop (mkF m 40 #[.val (.ref a1), .val (.int (2 : Int32)), .val (.int p3), .val (.int (8 : Int32))] [(.int (1 : Int32)), (.int (8 : Int32)), (.ref arr)])) (fun t k => XS.iconst X6.here hx rfl (hb hby d5_39) k) ?_
  refine Goes.st (U' := T6.setTop (mkF m 41 #[.val (.ref a1), .val (.int (2 : Int32)), .val (.int p3), .val (.int (8 : Int32))] [(.int (9 : Int32)), (.ref arr)])) (fun t k => XS.iadd X6.here hx rfl (hb hby d5_40) rfl k) ?_
  refine Goes.st (U' := T6.setTop (mkF m 42 #[.val (.ref a1), .val (.int (2 : Int32)), .val (.int p3), .val (.int (8 : Int32))] [(.int p3), (.int (9 : Int32)), (.ref arr)])) (fun t k => XS.iloadN X6.here hx rfl (hb hby d5_41) rfl k) ?_
  refine Goes.st (U' := T6.setTop (mkF m 44 #[.val (.ref a1), .val (.int (2 : Int32)), .val (.int p3), .val (.int (8 : Int32))] [(.int (8 : Int32)), (.int p3), (.int (9 : Int32)), (.ref arr)])) (fun t k => XS.bipush X6.here hx rfl (hb hby d5_42) k) ?_
  refine Goes.st (U' := T6.setTop (mkF m 45 #[.val (.ref a1), .val (.int (2 : Int32)), .val (.int p3), .val (.int (8 : Int32))] [(.int (p3 >>> ((8 : Int32) &&& 31))), (.int (9 : Int32)), (.ref arr)])) (fun t k => XS.ishr X6.here hx rfl (hb hby d5_44) rfl k) ?_
  refine Goes.st (U' := T6.setTop (mkF m 46 #[.val (.ref a1), .val (.int (2 : Int32)), .val (.int p3), .val (.int (8 : Int32))] [(.int ((p3 >>> ((8 : Int32) &&& 31)).toInt8.toInt32)), (.int (9 : Int32)), (.ref arr)])) (fun t k => XS.i2b X6.here hx rfl (hb hby d5_45) rfl k) ?_
  have Vx7 := V4
  obtain ⟨cl7, Ar7, qa7, S7, Nn7, H7, G7⟩ := Vx7
  have hin7 : ¬ ((9 : Int32) < 0 ∨ cl7.slots.size ≤ ((9 : Int32)).toNatClampNeg) := inb_of S7 ⟨by decide, by decide⟩
  obtain ⟨T7, h7, X7, e7, W7, st7⟩ := stB X6 hx hZ e6 Ar7 (j := (9 : Int32)) hin7 (g := (mkF m 46 #[.val (.ref a1), .val (.int (2 : Int32)), .val (.int p3), .val (.int (8 : Int32))] [(.int ((p3 >>> ((8 : Int32) &&& 31)).toInt8.toInt32)), (.int (9 : Int32)), (.ref arr)])) rfl rfl (hb hby d5_46)
  have V7 : Arv Z h7 arr k .byte (12 : Int32) [(.int (own_b0 x0)), (.int (own_b1 x0)), (.int (own_b2 x0)), (.int (own_b3 x0)), (.int (own_b0 x1)), (.int (own_b1 x1)), (.int (own_b2 x1)), (.int (own_b3 x1)), (.int ((p3.toInt8.toInt32).toInt8.toInt32)), (.int (((p3 >>> ((8 : Int32) &&& 31)).toInt8.toInt32).toInt8.toInt32)), (.int (own_b2 x2)), (.int (own_b3 x2))] (.int (0 : Int32)) := Arv.set Ar7 qa7 S7 Nn7 H7 G7 (fits_nar_byte _) W7 9 rfl (Nat.le_of_ble_eq_true rfl)
  have N7 := Fr.snoc X7 N4 g_arr
  have K_8 : Keep h0 h7 [arr] := K_5.wr W7 (Or.inl (List.mem_of_getElem? (i := 0) rfl))
  refine Goes.st (U' := T7.setTop (mkF m 47 #[.val (.ref a1), .val (.int (2 : Int32)), .val (.int p3), .val (.int (8 : Int32))] [])) (fun t k => st7 t k) ?_
  refine Goes.st (U' := T7.setTop (mkF m 48 #[.val (.ref a1), .val (.int (2 : Int32)), .val (.int p3), .val (.int (8 : Int32))] [(.ref a1)])) (fun t k => XS.aloadN X7.here hx rfl (hb hby d5_47) rfl rfl k) ?_
  obtain ⟨T9, X9, e9, st9⟩ := getF X7 hx hZ hown (host := "") (Or.inl (hw _ (List.mem_of_getElem? (i := 16) rfl))) Via.refl e7 ((F_bytes_a1.other W4 (Or.inl ne_a1_arr)).other W7 (Or.inl ne_a1_arr)) (g := (mkF m 48 #[.val (.ref a1), .val (.int (2 : Int32)), .val (.int p3), .val (.int (8 : Int32))] [(.ref a1)])) rfl rfl (hb hby d5_48)
  refine Goes.st (U' := T9.setTop (mkF m 51 #[.val (.ref a1), .val (.int (2 : Int32)), .val (.int p3), .val (.int (8 : Int32))] [(.ref arr)])) (fun t k => st9 t k) ?_
  refine Goes.st (U' := T9.setTop (mkF m 52 #[.val (.ref a1), .val (.int (2 : Int32)), .val (.int p3), .val (.int (8 : Int32))] [(.int (8 : Int32)), (.ref arr)])) (fun t k => XS.iloadN X9.here hx rfl (hb hby d5_51) rfl k) ?_
  refine Goes.st (U' := T9.setTop (mkF m 53 #[.val (.ref a1), .val (.int (2 : Int32)), .val (.int p3), .val (.int (8 : Int32))] [(.int (2 : Int32)), (.int (8 : Int32)), (.ref arr)])) (fun t k => XS.iconst X9.here hx rfl (hb hby d5_52) k) ?_
  refine Goes.st (U' := T9.setTop (mkF m 54 #[.val (.ref a1), .val (.int (2 : Int32)), .val (.int p3), .val (.int (8 : Int32))] [(.int (10 : Int32)), (.ref arr)])) (fun t k => XS.iadd X9.here hx rfl (hb hby d5_53) rfl k) ?_
  refine Goes.st (U' := T9.setTop (mkF m 55 #[.val (.ref a1), .val (.int (2 : Int32)), .val (.int p3), .val (.int (8 : Int32))] [(.int p3), (.int (10 : Int32)), (.ref arr)])) (fun t k => XS.iloadN X9.here hx rfl (hb hby d5_54) rfl k) ?_
  refine Goes.st (U' := T9.setTop (mkF m 57 #[.val (.ref a1), .val (.int (2 : Int32)), .val (.int p3), .val (.int (8 : Int32))] [(.int (16 : Int32)), (.int p3), (.int (10 : Int32)), (.ref arr)])) (fun t k => XS.bipush X9.here hx rfl (hb hby d5_55) k) ?_
  refine Goes.st (U' := T9.setTop (mkF m 58 #[.val (.ref a1), .val (.int (2 : Int32)), .val (.int p3), .val (.int (8 : Int32))] [(.int (p3 >>> ((16 : Int32) &&& 31))), (.int (10 : Int32)), (.ref arr)])) (fun t k => XS.ishr X9.here hx rfl (hb hby d5_57) rfl k) ?_
  refine Goes.st (U' := T9.setTop (mkF m 59 #[.val (.ref a1), .val (.int (2 : Int32)), .val (.int p3), .val (.int (8 : Int32))] [(.int ((p3 >>> ((16 : Int32) &&& 31)).toInt8.toInt32)), (.int (10 : Int32)), (.ref arr)])) (fun t k => XS.i2b X9.here hx rfl (hb hby d5_58) rfl k) ?_
  have Vx10 := V7
  obtain ⟨cl10, Ar10, qa10, S10, Nn10, H10, G10⟩ := Vx10
  have hin10 : ¬ ((10 : Int32) < 0 ∨ cl10.slots.size ≤ ((10 : Int32)).toNatClampNeg) := inb_of S10 ⟨by decide, by decide⟩
  obtain ⟨T10, h10, X10, e10, W10, st10⟩ := stB X9 hx hZ e9 Ar10 (j := (10 : Int32)) hin10 (g := (mkF m 59 #[.val (.ref a1), .val (.int (2 : Int32)), .val (.int p3), .val (.int (8 : Int32))] [(.int ((p3 >>> ((16 : Int32) &&& 31)).toInt8.toInt32)), (.int (10 : Int32)), (.ref arr)])) rfl rfl (hb hby d5_59)
  have V10 : Arv Z h10 arr k .byte (12 : Int32) [(.int (own_b0 x0)), (.int (own_b1 x0)), (.int (own_b2 x0)), (.int (own_b3 x0)), (.int (own_b0 x1)), (.int (own_b1 x1)), (.int (own_b2 x1)), (.int (own_b3 x1)), (.int ((p3.toInt8.toInt32).toInt8.toInt32)), (.int (((p3 >>> ((8 : Int32) &&& 31)).toInt8.toInt32).toInt8.toInt32)), (.int (((p3 >>> ((16 : Int32) &&& 31)).toInt8.toInt32).toInt8.toInt32)), (.int (own_b3 x2))] (.int (0 : Int32)) := Arv.set Ar10 qa10 S10 Nn10 H10 G10 (fits_nar_byte _) W10 10 rfl (Nat.le_of_ble_eq_true rfl)
  have N10 := Fr.snoc X10 N7 g_arr
  have K_11 : Keep h0 h10 [arr] := K_8.wr W10 (Or.inl (List.mem_of_getElem? (i := 0) rfl))
  refine Goes.st (U' := T10.setTop (mkF m 60 #[.val (.ref a1), .val (.int (2 : Int32)), .val (.int p3), .val (.int (8 : Int32))] [])) (fun t k => st10 t k) ?_
  refine Goes.st (U' := T10.setTop (mkF m 61 #[.val (.ref a1), .val (.int (2 : Int32)), .val (.int p3), .val (.int (8 : Int32))] [(.ref a1)])) (fun t k => XS.aloadN X10.here hx rfl (hb hby d5_60) rfl rfl k) ?_
  obtain ⟨T12, X12, e12, st12⟩ := getF X10 hx hZ hown (host := "") (Or.inl (hw _ (List.mem_of_getElem? (i := 18) rfl))) Via.refl e10 (((F_width_a1.other W4 (Or.inl ne_a1_arr)).other W7 (Or.inl ne_a1_arr)).other W10 (Or.inl ne_a1_arr)) (g := (mkF m 61 #[.val (.ref a1), .val (.int (2 : Int32)), .val (.int p3), .val (.int (8 : Int32))] [(.ref a1)])) rfl rfl (hb hby d5_61)
  refine Goes.st (U' := T12.setTop (mkF m 64 #[.val (.ref a1), .val (.int (2 : Int32)), .val (.int p3), .val (.int (8 : Int32))] [(.int (4 : Int32))])) (fun t k => st12 t k) ?_
  refine Goes.st (U' := T12.setTop (mkF m 65 #[.val (.ref a1), .val (.int (2 : Int32)), .val (.int p3), .val (.int (8 : Int32))] [(.int (4 : Int32)), (.int (4 : Int32))])) (fun t k => XS.iconst X12.here hx rfl (hb hby d5_64) k) ?_
  refine Goes.st (U' := T12.setTop (mkF m 68 #[.val (.ref a1), .val (.int (2 : Int32)), .val (.int p3), .val (.int (8 : Int32))] [])) (fun t k => XS.icmpNo X12.here hx rfl (hb hby d5_65) rfl (teq (rfl : (4 : Int32) = (4 : Int32))).2 k) ?_
  refine Goes.st (U' := T12.setTop (mkF m 69 #[.val (.ref a1), .val (.int (2 : Int32)), .val (.int p3), .val (.int (8 : Int32))] [(.ref a1)])) (fun t k => XS.aloadN X12.here hx rfl (hb hby d5_68) rfl rfl k) ?_
  obtain ⟨T13, X13, e13, st13⟩ := getF X12 hx hZ hown (host := "") (Or.inl (hw _ (List.mem_of_getElem? (i := 16) rfl))) Via.refl e12 (((F_bytes_a1.other W4 (Or.inl ne_a1_arr)).other W7 (Or.inl ne_a1_arr)).other W10 (Or.inl ne_a1_arr)) (g := (mkF m 69 #[.val (.ref a1), .val (.int (2 : Int32)), .val (.int p3), .val (.int (8 : Int32))] [(.ref a1)])) rfl rfl (hb hby d5_69)
  refine Goes.st (U' := T13.setTop (mkF m 72 #[.val (.ref a1), .val (.int (2 : Int32)), .val (.int p3), .val (.int (8 : Int32))] [(.ref arr)])) (fun t k => st13 t k) ?_
  refine Goes.st (U' := T13.setTop (mkF m 73 #[.val (.ref a1), .val (.int (2 : Int32)), .val (.int p3), .val (.int (8 : Int32))] [(.int (8 : Int32)), (.ref arr)])) (fun t k => XS.iloadN X13.here hx rfl (hb hby d5_72) rfl k) ?_
  refine Goes.st (U' := T13.setTop (mkF m 74 #[.val (.ref a1), .val (.int (2 : Int32)), .val (.int p3), .val (.int (8 : Int32))] [(.int (3 : Int32)), (.int (8 : Int32)), (.ref arr)])) (fun t k => XS.iconst X13.here hx rfl (hb hby d5_73) k) ?_
  refine Goes.st (U' := T13.setTop (mkF m 75 #[.val (.ref a1), .val (.int (2 : Int32)), .val (.int p3), .val (.int (8 : Int32))] [(.int (11 : Int32)), (.ref arr)])) (fun t k => XS.iadd X13.here hx rfl (hb hby d5_74) rfl k) ?_
  refine Goes.st (U' := T13.setTop (mkF m 76 #[.val (.ref a1), .val (.int (2 : Int32)), .val (.int p3), .val (.int (8 : Int32))] [(.int p3), (.int (11 : Int32)), (.ref arr)])) (fun t k => XS.iloadN X13.here hx rfl (hb hby d5_75) rfl k) ?_
  refine Goes.st (U' := T13.setTop (mkF m 78 #[.val (.ref a1), .val (.int (2 : Int32)), .val (.int p3), .val (.int (8 : Int32))] [(.int (24 : Int32)), (.int p3), (.int (11 : Int32)), (.ref arr)])) (fun t k => XS.bipush X13.here hx rfl (hb hby d5_76) k) ?_
  refine Goes.st (U' := T13.setTop (mkF m 79 #[.val (.ref a1), .val (.int (2 : Int32)), .val (.int p3), .val (.int (8 : Int32))] [(.int (p3 >>> ((24 : Int32) &&& 31))), (.int (11 : Int32)), (.ref arr)])) (fun t k => XS.ishr X13.here hx rfl (hb hby d5_78) rfl k) ?_
  refine Goes.st (U' := T13.setTop (mkF m 80 #[.val (.ref a1), .val (.int (2 : Int32)), .val (.int p3), .val (.int (8 : Int32))] [(.int ((p3 >>> ((24 : Int32) &&& 31)).toInt8.toInt32)), (.int (11 : Int32)), (.ref arr)])) (fun t k => XS.i2b X13.here hx rfl (hb hby d5_79) rfl k) ?_
  have Vx14 := V10
  obtain ⟨cl14, Ar14, qa14, S14, Nn14, H14, G14⟩ := Vx14
  have hin14 : ¬ ((11 : Int32) < 0 ∨ cl14.slots.size ≤ ((11 : Int32)).toNatClampNeg) := inb_of S14 ⟨by decide, by decide⟩
  obtain ⟨T14, h14, X14, e14, W14, st14⟩ := stB X13 hx hZ e13 Ar14 (j := (11 : Int32)) hin14 (g := (mkF m 80 #[.val (.ref a1), .val (.int (2 : Int32)), .val (.int p3), .val (.int (8 : Int32))] [(.int ((p3 >>> ((24 : Int32) &&& 31)).toInt8.toInt32)), (.int (11 : Int32)), (.ref arr)])) rfl rfl (hb hby d5_80)
  have V14 : Arv Z h14 arr k .byte (12 : Int32) [(.int (own_b0 x0)), (.int (own_b1 x0)), (.int (own_b2 x0)), (.int (own_b3 x0)), (.int (own_b0 x1)), (.int (own_b1 x1)), (.int (own_b2 x1)), (.int (own_b3 x1)), (.int ((p3.toInt8.toInt32).toInt8.toInt32)), (.int (((p3 >>> ((8 : Int32) &&& 31)).toInt8.toInt32).toInt8.toInt32)), (.int (((p3 >>> ((16 : Int32) &&& 31)).toInt8.toInt32).toInt8.toInt32)), (.int (((p3 >>> ((24 : Int32) &&& 31)).toInt8.toInt32).toInt8.toInt32))] (.int (0 : Int32)) := Arv.set Ar14 qa14 S14 Nn14 H14 G14 (fits_nar_byte _) W14 11 rfl (Nat.le_of_ble_eq_true rfl)
  have N14 := Fr.snoc X14 N10 g_arr
  have K_15 : Keep h0 h14 [arr] := K_11.wr W14 (Or.inl (List.mem_of_getElem? (i := 0) rfl))
  refine Goes.st (U' := T14.setTop (mkF m 81 #[.val (.ref a1), .val (.int (2 : Int32)), .val (.int p3), .val (.int (8 : Int32))] [])) (fun t k => st14 t k) ?_
  refine Goes.retV X14 hx (BodyLoose.notSynchronized Bd) Bd.returns (hb hby d5_81) (by decide) (by decide) ?_
  show Q_rmT2 Z a1 (2 : Int32) p3 arr k x0 x1 x2 h0 n0 _ T14.heap _
  rw [e14]
  exact ⟨rfl, N14, K_15, ⟨((((E_a1.wr W4).wr W7).wr W10).wr W14), ((((F_length_a1.other W4 (Or.inl ne_a1_arr)).other W7 (Or.inl ne_a1_arr)).other W10 (Or.inl ne_a1_arr)).other W14 (Or.inl ne_a1_arr)), ((((F_bytes_a1.other W4 (Or.inl ne_a1_arr)).other W7 (Or.inl ne_a1_arr)).other W10 (Or.inl ne_a1_arr)).other W14 (Or.inl ne_a1_arr)), ((((F_width_a1.other W4 (Or.inl ne_a1_arr)).other W7 (Or.inl ne_a1_arr)).other W10 (Or.inl ne_a1_arr)).other W14 (Or.inl ne_a1_arr)), V14, ne_a1_arr⟩⟩
theorem d7_0 : decode prog_81_method_10_code 0 = .ok (.aload_n 0, 1) := by decide +kernel
theorem d7_1 : decode prog_81_method_10_code 1 = .ok (.getfield 39, 3) := by decide +kernel
theorem d7_4 : decode prog_81_method_10_code 4 = .ok (.iconst 4, 1) := by decide +kernel
theorem d7_5 : decode prog_81_method_10_code 5 = .ok (.if_icmp .ne 4, 3) := by decide +kernel
theorem d7_9 : decode prog_81_method_10_code 9 = .ok (.new 3, 3) := by decide +kernel
theorem d7_12 : decode prog_81_method_10_code 12 = .ok (.dup, 1) := by decide +kernel
theorem d7_13 : decode prog_81_method_10_code 13 = .ok (.aload_n 0, 1) := by decide +kernel
theorem d7_14 : decode prog_81_method_10_code 14 = .ok (.getfield 31, 3) := by decide +kernel
theorem d7_17 : decode prog_81_method_10_code 17 = .ok (.iconst 4, 1) := by decide +kernel
theorem d7_18 : decode prog_81_method_10_code 18 = .ok (.invokespecial 5, 3) := by decide +kernel
theorem d7_21 : decode prog_81_method_10_code 21 = .ok (.astore_n 1, 1) := by decide +kernel
theorem d7_22 : decode prog_81_method_10_code 22 = .ok (.iconst 0, 1) := by decide +kernel
theorem d7_23 : decode prog_81_method_10_code 23 = .ok (.istore_n 2, 1) := by decide +kernel
theorem d7_24 : decode prog_81_method_10_code 24 = .ok (.iload_n 2, 1) := by decide +kernel
theorem d7_25 : decode prog_81_method_10_code 25 = .ok (.aload_n 0, 1) := by decide +kernel
theorem d7_26 : decode prog_81_method_10_code 26 = .ok (.getfield 31, 3) := by decide +kernel
theorem d7_29 : decode prog_81_method_10_code 29 = .ok (.if_icmp .ge 19, 3) := by decide +kernel
theorem d7_32 : decode prog_81_method_10_code 32 = .ok (.aload_n 1, 1) := by decide +kernel
theorem d7_33 : decode prog_81_method_10_code 33 = .ok (.iload_n 2, 1) := by decide +kernel
theorem d7_34 : decode prog_81_method_10_code 34 = .ok (.aload_n 0, 1) := by decide +kernel
theorem d7_35 : decode prog_81_method_10_code 35 = .ok (.iload_n 2, 1) := by decide +kernel
theorem d7_36 : decode prog_81_method_10_code 36 = .ok (.invokevirtual 64, 3) := by decide +kernel
theorem d7_39 : decode prog_81_method_10_code 39 = .ok (.invokevirtual 46, 3) := by decide +kernel
theorem d7_42 : decode prog_81_method_10_code 42 = .ok (.iinc 2 1, 3) := by decide +kernel
theorem d7_45 : decode prog_81_method_10_code 45 = .ok (.goto (-21), 3) := by decide +kernel
theorem d7_48 : decode prog_81_method_10_code 48 = .ok (.aload_n 0, 1) := by decide +kernel
theorem d7_49 : decode prog_81_method_10_code 49 = .ok (.aload_n 1, 1) := by decide +kernel
theorem d7_50 : decode prog_81_method_10_code 50 = .ok (.getfield 35, 3) := by decide +kernel
theorem d7_53 : decode prog_81_method_10_code 53 = .ok (.putfield 35, 3) := by decide +kernel
theorem d7_56 : decode prog_81_method_10_code 56 = .ok (.aload_n 0, 1) := by decide +kernel
theorem d7_57 : decode prog_81_method_10_code 57 = .ok (.iconst 4, 1) := by decide +kernel
theorem d7_58 : decode prog_81_method_10_code 58 = .ok (.putfield 39, 3) := by decide +kernel
theorem d7_61 : decode prog_81_method_10_code 61 = .ok (.return_, 1) := by decide +kernel
theorem pd_1 : parseMethodDescriptor "(I)I" = some ⟨[.int], some .int⟩ := by decide +kernel
theorem ef_rm7 (m : MethodId) (a1 : Addr) : entryFrame m #[(.ref a1)] 3 = mkF m 0 #[.val (.ref a1), .unset, .unset] [] := by first | (simp [entryFrame, mkF, argsToLocals, Value.category]; done) | rfl
def Q7 (Z : State) (a1 : Addr) (arr : Addr) (k : ClassId) (x0 : Int32) (x1 : Int32) (x2 : Int32) (h0 : Heap) (n0 : Nat) (v : Option Value) (h : Heap) (L : List Loc) : Prop := v = none ∧ Fr n0 L ∧ n0 ≤ h.size ∧ ∃ arr' k', P4 Z h a1 arr' k' x0 x1 x2 ∧ n0 ≤ arr'
set_option maxRecDepth 65536 in
set_option maxHeartbeats 40000000 in
theorem rm7 (l : Launch) (Z : State) (a0 : Array Value) (hw : ∀ d ∈ tables_1, d.before a0 Z = true) (ws : List Jvm.Cond) (a1 : Addr) (arr : Addr) (k : ClassId) (x0 : Int32) (x1 : Int32) (x2 : Int32) (h0 : Heap) (n0 : Nat) (Z0 : n0 ≤ h0.size) (P : P3 Z h0 a1 arr k x0 x1 x2) (g_a1 : n0 ≤ a1) (g_arr : n0 ≤ arr) :
    MetFree l (⟨"com/example/chaise/chaise/core/PackedInts", "widen", "()V"⟩ : MethodName) (head1 (Jvm.Cond.code (⟨"com/example/chaise/chaise/core/PackedInts", "widen", "()V"⟩ : MethodName) prog_81_method_10_code 3 none :: ws) ({ frames := 2, cells := 2, slots := 15, locals := 29 } : Room)) (fun a U => a = #[(.ref a1)] ∧ Z.Warmed39 U.vm ∧ U.heap = h0) (fun _ _ _ _ _ => True) (fun _ U o U' => ∃ v L, o = .returned v ∧ Q7 Z a1 arr k x0 x1 x2 h0 n0 v U'.heap L ∧ FrameEnd U o U' L ({ frames := 2, cells := 2, slots := 15, locals := 29 } : Room).cells ({ frames := 2, cells := 2, slots := 15, locals := 29 } : Room).slots) := by
  refine MetFree.of_bodySF (plainFor_of_name pn_0) hisR ?_
  intro p e s m args below meth c s₁ Bd hml0 hP hK
  obtain ⟨rfl, hZ, hh⟩ := hP
  have hx := Bd.exec
  have hby := Bd.bytes
  have hml : c.maxLocals = 3 := hml0
  have hown : s.vm.findClass "com/example/chaise/chaise/core/PackedInts" = some m.cls := findClass_of_methodNamed Bd.named
  have hnm := (name_of_methodNamed Bd.named Bd.method).1
  have X0 : Stand p l e ({ frames := 2, cells := 2, slots := 15, locals := 29 } : Room) s m #[(.ref a1)] below meth c s₁ [] 0 0 := Stand.of_body Bd
  have e0 : s₁.heap = h0 := by rw [← hh, Bd.state]; rfl
  have N0 := Fr.nil n0
  show Goes p e s below (fun v h L => Q7 Z a1 arr k x0 x1 x2 h0 n0 v h L) ({ frames := 2, cells := 2, slots := 15, locals := 29 } : Room).cells ({ frames := 2, cells := 2, slots := 15, locals := 29 } : Room).slots (s₁.setTop (entryFrame m #[(.ref a1)] 3))
  refine Goes.st (U' := s₁.setTop (mkF m 0 #[.val (.ref a1), .unset, .unset] [])) (fun t k => castTop (ef_rm7 m a1) k) ?_
  obtain ⟨E_a1, F_length_a1, F_bytes_a1, F_width_a1, V_arr, ne_a1_arr, hf0_a1, hf1_a1, hf2_a1⟩ := P
  refine Goes.st (U' := s₁.setTop (mkF m 1 #[.val (.ref a1), .unset, .unset] [(.ref a1)])) (fun t k => XS.aloadN X0.here hx rfl (hb hby d7_0) rfl rfl k) ?_
  obtain ⟨T1, X1, e1, st1⟩ := getF X0 hx hZ hown (host := "") (Or.inl (hw _ (List.mem_of_getElem? (i := 18) rfl))) Via.refl e0 F_width_a1 (g := (mkF m 1 #[.val (.ref a1), .unset, .unset] [(.ref a1)])) rfl rfl (hb hby d7_1)
  refine Goes.st (U' := T1.setTop (mkF m 4 #[.val (.ref a1), .unset, .unset] [(.int (3 : Int32))])) (fun t k => st1 t k) ?_
  refine Goes.st (U' := T1.setTop (mkF m 5 #[.val (.ref a1), .unset, .unset] [(.int (4 : Int32)), (.int (3 : Int32))])) (fun t k => XS.iconst X1.here hx rfl (hb hby d7_4) k) ?_
  refine Goes.st (U' := T1.setTop (mkF m 9 #[.val (.ref a1), .unset, .unset] [])) (fun t k => XS.icmpYes X1.here hx rfl (pc0 := 5) (pc' := 9) rfl (hb hby d7_5) rfl (feq (by decide : ¬ ((3 : Int32) = (4 : Int32)))).2 (by decide) (by decide) k) ?_
  obtain ⟨T2, h2, X2, e2, E2, A2, D2, -, st2⟩ := newO X1 hx hZ hown (hw _ (List.mem_of_getElem? (i := 40) rfl)) (hw _ (List.mem_of_getElem? (i := 1) rfl)) (hw _ (List.mem_of_getElem? (i := 2) rfl)) e1 (g := (mkF m 9 #[.val (.ref a1), .unset, .unset] [])) rfl (hb hby d7_9) (by decide) (by decide)
  obtain ⟨b2, g2⟩ : ∃ z, z = h0.size := ⟨_, rfl⟩
  rw [← g2] at A2 D2 st2
  have ne_arr_b2 : arr ≠ b2 := Nat.ne_of_lt (Nat.lt_of_lt_of_le V_arr.lt (Nat.le_of_eq g2.symm))
  have ne_a1_b2 : a1 ≠ b2 := Nat.ne_of_lt (Nat.lt_of_lt_of_le E_a1.lt (Nat.le_of_eq g2.symm))
  have g_b2 : n0 ≤ b2 := Nat.le_trans Z0 (Nat.le_of_eq g2.symm)
  have F_length_b2 : Fld Z h2 b2 "com/example/chaise/chaise/core/PackedInts" "length" "I" (.int (0 : Int32)) := D2 (Or.inr (hw _ (List.mem_of_getElem? (i := 14) rfl))) (ty := .int) (by decide)
  have F_bytes_b2 : Fld Z h2 b2 "com/example/chaise/chaise/core/PackedInts" "bytes" "[B" .null := D2 (Or.inl (hw _ (List.mem_of_getElem? (i := 17) rfl))) (ty := (.array .byte)) (by decide)
  have F_width_b2 : Fld Z h2 b2 "com/example/chaise/chaise/core/PackedInts" "width" "I" (.int (0 : Int32)) := D2 (Or.inl (hw _ (List.mem_of_getElem? (i := 19) rfl))) (ty := .int) (by decide)
  refine Goes.st (U' := T2.setTop (mkF m 12 #[.val (.ref a1), .unset, .unset] [(.ref b2)])) (fun t k => st2 t k) ?_
  refine Goes.st (U' := T2.setTop (mkF m 13 #[.val (.ref a1), .unset, .unset] [(.ref b2), (.ref b2)])) (fun t k => XS.dup X2.here hx rfl (hb hby d7_12) rfl rfl k) ?_
  refine Goes.st (U' := T2.setTop (mkF m 14 #[.val (.ref a1), .unset, .unset] [(.ref a1), (.ref b2), (.ref b2)])) (fun t k => XS.aloadN X2.here hx rfl (hb hby d7_13) rfl rfl k) ?_
  obtain ⟨T3, X3, e3, st3⟩ := getF X2 hx hZ hown (host := "") (Or.inl (hw _ (List.mem_of_getElem? (i := 13) rfl))) Via.refl e2 (F_length_a1.ext E2) (g := (mkF m 14 #[.val (.ref a1), .unset, .unset] [(.ref a1), (.ref b2), (.ref b2)])) rfl rfl (hb hby d7_14)
  refine Goes.st (U' := T3.setTop (mkF m 17 #[.val (.ref a1), .unset, .unset] [(.int (3 : Int32)), (.ref b2), (.ref b2)])) (fun t k => st3 t k) ?_
  refine Goes.st (U' := T3.setTop (mkF m 18 #[.val (.ref a1), .unset, .unset] [(.int (4 : Int32)), (.int (3 : Int32)), (.ref b2), (.ref b2)])) (fun t k => XS.iconst X3.here hx rfl (hb hby d7_17) k) ?_
  obtain ⟨_, _, ⟨T4, L4, k4, n4⟩, -, X4, ⟨Lc4, hQ4, l4, y4, z4⟩, st4⟩ := X3.specialBack hx (y := (⟨"com/example/chaise/chaise/core/PackedInts", "<init>", "(II)V"⟩ : MethodName)) rfl hown (mvT hZ (hw _ (List.mem_of_getElem? (i := 6) rfl))) (mvT hZ (hw _ (List.mem_of_getElem? (i := 7) rfl))) (mvT hZ (hw _ (List.mem_of_getElem? (i := 8) rfl))) (by decide) (backOf (W := 1) (rmC4 l Z a0 hw [] b2 (3 : Int32) (4 : Int32) h2 n0 (Nat.le_trans Z0 E2.1) (A2) (F_length_b2) (F_bytes_b2) (F_width_b2) (g_b2) (rfl) (rfl)) hZ (hw _ (List.mem_of_getElem? (i := 8) rfl)) (hw _ (List.mem_of_getElem? (i := 2) rfl)) (by decide) (by decide)) (g := (mkF m 18 #[.val (.ref a1), .unset, .unset] [(.int (4 : Int32)), (.int (3 : Int32)), (.ref b2), (.ref b2)])) rfl (by rw [hml]; rfl) (Steps.refl _) (a := b2) (argsL := [(.int (3 : Int32)), (.int (4 : Int32))]) (rest := [(.ref b2)]) (lenOf pd_0 rfl) rfl (by show 2 * 0 + _ ≤ _; exact Nat.le_of_eq rfl) (hb hby d7_18) (fun _ _ => ⟨rfl, e3, (by decide : 1 + 1 ≤ _), (by decide : 3 + 12 ≤ _)⟩)
  dsimp only [Pt.U, Pt.locs, Pt.cells, Pt.slots] at X4 l4 y4 z4 st4 hQ4
  subst l4 y4 z4
  obtain ⟨rfl, N4q, K4, ar4, ka4, I4, g_ar4, u4⟩ := hQ4
  have N4 := Fr.app N0 N4q
  have ne_a1_ar4 : a1 ≠ ar4 := Nat.ne_of_lt (Nat.lt_of_lt_of_le (E_a1.ext E2).lt u4)
  have ne_arr_ar4 : arr ≠ ar4 := Nat.ne_of_lt (Nat.lt_of_lt_of_le (V_arr.ext E2).lt u4)
  have ne_b2_ar4 : b2 ≠ ar4 := Nat.ne_of_lt (Nat.lt_of_lt_of_le A2.lt u4)
  refine Goes.tr (U' := T4.setTop (mkF m 21 #[.val (.ref a1), .unset, .unset] [(.ref b2)])) st4 ?_
  refine Goes.st (U' := T4.setTop (mkF m 22 #[.val (.ref a1), .val (.ref b2), .unset] [])) (fun t k => XS.astoreN X4.here hx rfl (hb hby d7_21) rfl rfl (l' := #[.val (.ref a1), .val (.ref b2), .unset]) rfl k) ?_
  refine Goes.st (U' := T4.setTop (mkF m 23 #[.val (.ref a1), .val (.ref b2), .unset] [(.int (0 : Int32))])) (fun t k => XS.iconst X4.here hx rfl (hb hby d7_22) k) ?_
  refine Goes.st (U' := T4.setTop (mkF m 24 #[.val (.ref a1), .val (.ref b2), .val (.int (0 : Int32))] [])) (fun t k => XS.istoreN X4.here hx rfl (hb hby d7_23) rfl (l' := #[.val (.ref a1), .val (.ref b2), .val (.int (0 : Int32))]) rfl k) ?_
  refine Goes.st (U' := T4.setTop (mkF m 25 #[.val (.ref a1), .val (.ref b2), .val (.int (0 : Int32))] [(.int (0 : Int32))])) (fun t k => XS.iloadN X4.here hx rfl (hb hby d7_24) rfl k) ?_
  refine Goes.st (U' := T4.setTop (mkF m 26 #[.val (.ref a1), .val (.ref b2), .val (.int (0 : Int32))] [(.ref a1), (.int (0 : Int32))])) (fun t k => XS.aloadN X4.here hx rfl (hb hby d7_25) rfl rfl k) ?_
  obtain ⟨T5, X5, e5, st5⟩ := getF X4 hx hZ hown (host := "") (Or.inl (hw _ (List.mem_of_getElem? (i := 13) rfl))) Via.refl rfl ((F_length_a1.ext E2).keep K4 (ninS ne_a1_b2 nin0)) (g := (mkF m 26 #[.val (.ref a1), .val (.ref b2), .val (.int (0 : Int32))] [(.ref a1), (.int (0 : Int32))])) rfl rfl (hb hby d7_26)
  refine Goes.st (U' := T5.setTop (mkF m 29 #[.val (.ref a1), .val (.ref b2), .val (.int (0 : Int32))] [(.int (3 : Int32)), (.int (0 : Int32))])) (fun t k => st5 t k) ?_
  refine Goes.st (U' := T5.setTop (mkF m 32 #[.val (.ref a1), .val (.ref b2), .val (.int (0 : Int32))] [])) (fun t k => XS.icmpNo X5.here hx rfl (hb hby d7_29) rfl (tlt (by decide : (0 : Int32) < (3 : Int32))).2.1 k) ?_
  refine Goes.st (U' := T5.setTop (mkF m 33 #[.val (.ref a1), .val (.ref b2), .val (.int (0 : Int32))] [(.ref b2)])) (fun t k => XS.aloadN X5.here hx rfl (hb hby d7_32) rfl rfl k) ?_
  refine Goes.st (U' := T5.setTop (mkF m 34 #[.val (.ref a1), .val (.ref b2), .val (.int (0 : Int32))] [(.int (0 : Int32)), (.ref b2)])) (fun t k => XS.iloadN X5.here hx rfl (hb hby d7_33) rfl k) ?_
  refine Goes.st (U' := T5.setTop (mkF m 35 #[.val (.ref a1), .val (.ref b2), .val (.int (0 : Int32))] [(.ref a1), (.int (0 : Int32)), (.ref b2)])) (fun t k => XS.aloadN X5.here hx rfl (hb hby d7_34) rfl rfl k) ?_
  refine Goes.st (U' := T5.setTop (mkF m 36 #[.val (.ref a1), .val (.ref b2), .val (.int (0 : Int32))] [(.int (0 : Int32)), (.ref a1), (.int (0 : Int32)), (.ref b2)])) (fun t k => XS.iloadN X5.here hx rfl (hb hby d7_35) rfl k) ?_
  obtain ⟨cq6, kq6, q6a, q6b, q6c⟩ := isOf hZ e5 ((E_a1.ext E2).keep K4)
  obtain ⟨_, _, ⟨T6, L6, k6, n6⟩, -, X6, ⟨Lc6, hQ6, l6, y6, z6⟩, st6⟩ := X5.virtualBack hx (y := (⟨"com/example/chaise/chaise/core/PackedInts", "get", "(I)I"⟩ : MethodName)) (z := (⟨"com/example/chaise/chaise/core/PackedInts", "get", "(I)I"⟩ : MethodName)) hown (mvT hZ (hw _ (List.mem_of_getElem? (i := 41) rfl))) (mvT hZ (hw _ (List.mem_of_getElem? (i := 22) rfl))) (notFace_of_selects (args := #[]) (mvT hZ (hw _ (List.mem_of_getElem? (i := 24) rfl)))) (mvT hZ (hw _ (List.mem_of_getElem? (i := 24) rfl))) (mvT hZ (hw _ (List.mem_of_getElem? (i := 23) rfl))) (by decide) (backOf (W := 2) (rmG0 l Z a0 hw [] a1 (0 : Int32) x0 x1 x2 T4.heap n0 (Nat.le_trans (Nat.le_trans Z0 E2.1) K4.1) (Or.inl ⟨arr, k, ⟨((E_a1.ext E2).keep K4), ((F_length_a1.ext E2).keep K4 (ninS ne_a1_b2 nin0)), ((F_bytes_a1.ext E2).keep K4 (ninS ne_a1_b2 nin0)), ((F_width_a1.ext E2).keep K4 (ninS ne_a1_b2 nin0)), ((V_arr.ext E2).keep K4 (ninS ne_arr_b2 nin0)), ne_a1_arr, hf0_a1, hf1_a1, hf2_a1⟩, g_arr⟩) (rfl)) hZ (hw _ (List.mem_of_getElem? (i := 25) rfl)) (hw _ (List.mem_of_getElem? (i := 2) rfl)) (by decide) (by decide)) q6a q6c (g := (mkF m 36 #[.val (.ref a1), .val (.ref b2), .val (.int (0 : Int32))] [(.int (0 : Int32)), (.ref a1), (.int (0 : Int32)), (.ref b2)])) rfl (by rw [hml]; rfl) (Steps.refl _) (argsL := [(.int (0 : Int32))]) (rest := [(.int (0 : Int32)), (.ref b2)]) (lenOf pd_1 rfl) rfl (by show 2 * 0 + _ ≤ _; exact Nat.le_of_eq rfl) (hb hby d7_36) (fun _ _ => ⟨rfl, e5, (by decide : 2 + 0 ≤ _), (by decide : 15 + 0 ≤ _)⟩)
  dsimp only [Pt.U, Pt.locs, Pt.cells, Pt.slots] at X6 l6 y6 z6 st6 hQ6
  subst l6 y6 z6
  obtain ⟨rfl, N6q, e6⟩ := hQ6
  have N6 := Fr.app N4 N6q
  refine Goes.tr (U' := T6.setTop (mkF m 39 #[.val (.ref a1), .val (.ref b2), .val (.int (0 : Int32))] [(.int x0), (.int (0 : Int32)), (.ref b2)])) st6 ?_
  obtain ⟨cq7, kq7, q7a, q7b, q7c⟩ := isOf hZ e6 I4.1
  obtain ⟨_, _, ⟨T7, L7, k7, n7⟩, -, X7, ⟨Lc7, hQ7, l7, y7, z7⟩, st7⟩ := X6.virtualBack hx (y := (⟨"com/example/chaise/chaise/core/PackedInts", "set", "(II)V"⟩ : MethodName)) (z := (⟨"com/example/chaise/chaise/core/PackedInts", "set", "(II)V"⟩ : MethodName)) hown (mvT hZ (hw _ (List.mem_of_getElem? (i := 42) rfl))) (mvT hZ (hw _ (List.mem_of_getElem? (i := 27) rfl))) (notFace_of_selects (args := #[]) (mvT hZ (hw _ (List.mem_of_getElem? (i := 29) rfl)))) (mvT hZ (hw _ (List.mem_of_getElem? (i := 29) rfl))) (mvT hZ (hw _ (List.mem_of_getElem? (i := 28) rfl))) (by decide) (backOf (W := 0) (rmT0 l Z a0 hw [] b2 (0 : Int32) x0 ar4 ka4 (0 : Int32) (0 : Int32) (0 : Int32) T4.heap n0 (Nat.le_trans (Nat.le_trans Z0 E2.1) K4.1) (I4) (rfl) (g_ar4)) hZ (hw _ (List.mem_of_getElem? (i := 30) rfl)) (hw _ (List.mem_of_getElem? (i := 2) rfl)) (by decide) (by decide)) q7a q7c (g := (mkF m 39 #[.val (.ref a1), .val (.ref b2), .val (.int (0 : Int32))] [(.int x0), (.int (0 : Int32)), (.ref b2)])) rfl (by rw [hml]; rfl) (Steps.refl _) (argsL := [(.int (0 : Int32)), (.int x0)]) (rest := []) (lenOf pd_0 rfl) rfl (by show 2 * 0 + _ ≤ _; exact Nat.le_of_eq rfl) (hb hby d7_39) (fun _ _ => ⟨rfl, e6, (by decide : 2 + 0 ≤ _), (by decide : 15 + 0 ≤ _)⟩)
  dsimp only [Pt.U, Pt.locs, Pt.cells, Pt.slots] at X7 l7 y7 z7 st7 hQ7
  subst l7 y7 z7
  obtain ⟨rfl, N7q, K7, I7⟩ := hQ7
  have N7 := Fr.app N6 N7q
  refine Goes.tr (U' := T7.setTop (mkF m 42 #[.val (.ref a1), .val (.ref b2), .val (.int (0 : Int32))] [])) st7 ?_
  refine Goes.st (U' := T7.setTop (mkF m 45 #[.val (.ref a1), .val (.ref b2), .val (.int (1 : Int32))] [])) (fun t k => XS.iinc X7.here hx rfl (hb hby d7_42) rfl (l' := #[.val (.ref a1), .val (.ref b2), .val (.int (1 : Int32))]) rfl k) ?_
  refine Goes.st (U' := T7.setTop (mkF m 24 #[.val (.ref a1), .val (.ref b2), .val (.int (1 : Int32))] [])) (fun t k => XS.goto X7.here hx rfl (pc0 := 45) (pc' := 24) rfl (hb hby d7_45) (by decide) (by decide) k) ?_
  refine Goes.st (U' := T7.setTop (mkF m 25 #[.val (.ref a1), .val (.ref b2), .val (.int (1 : Int32))] [(.int (1 : Int32))])) (fun t k => XS.iloadN X7.here hx rfl (hb hby d7_24) rfl k) ?_
  refine Goes.st (U' := T7.setTop (mkF m 26 #[.val (.ref a1), .val (.ref b2), .val (.int (1 : Int32))] [(.ref a1), (.int (1 : Int32))])) (fun t k => XS.aloadN X7.here hx rfl (hb hby d7_25) rfl rfl k) ?_
  obtain ⟨T8, X8, e8, st8⟩ := getF X7 hx hZ hown (host := "") (Or.inl (hw _ (List.mem_of_getElem? (i := 13) rfl))) Via.refl rfl (((F_length_a1.ext E2).keep K4 (ninS ne_a1_b2 nin0)).keep K7 (ninS ne_a1_ar4 nin0)) (g := (mkF m 26 #[.val (.ref a1), .val (.ref b2), .val (.int (1 : Int32))] [(.ref a1), (.int (1 : Int32))])) rfl rfl (hb hby d7_26)
  refine Goes.st (U' := T8.setTop (mkF m 29 #[.val (.ref a1), .val (.ref b2), .val (.int (1 : Int32))] [(.int (3 : Int32)), (.int (1 : Int32))])) (fun t k => st8 t k) ?_
  refine Goes.st (U' := T8.setTop (mkF m 32 #[.val (.ref a1), .val (.ref b2), .val (.int (1 : Int32))] [])) (fun t k => XS.icmpNo X8.here hx rfl (hb hby d7_29) rfl (tlt (by decide : (1 : Int32) < (3 : Int32))).2.1 k) ?_
  refine Goes.st (U' := T8.setTop (mkF m 33 #[.val (.ref a1), .val (.ref b2), .val (.int (1 : Int32))] [(.ref b2)])) (fun t k => XS.aloadN X8.here hx rfl (hb hby d7_32) rfl rfl k) ?_
  refine Goes.st (U' := T8.setTop (mkF m 34 #[.val (.ref a1), .val (.ref b2), .val (.int (1 : Int32))] [(.int (1 : Int32)), (.ref b2)])) (fun t k => XS.iloadN X8.here hx rfl (hb hby d7_33) rfl k) ?_
  refine Goes.st (U' := T8.setTop (mkF m 35 #[.val (.ref a1), .val (.ref b2), .val (.int (1 : Int32))] [(.ref a1), (.int (1 : Int32)), (.ref b2)])) (fun t k => XS.aloadN X8.here hx rfl (hb hby d7_34) rfl rfl k) ?_
  refine Goes.st (U' := T8.setTop (mkF m 36 #[.val (.ref a1), .val (.ref b2), .val (.int (1 : Int32))] [(.int (1 : Int32)), (.ref a1), (.int (1 : Int32)), (.ref b2)])) (fun t k => XS.iloadN X8.here hx rfl (hb hby d7_35) rfl k) ?_
  obtain ⟨cq9, kq9, q9a, q9b, q9c⟩ := isOf hZ e8 (((E_a1.ext E2).keep K4).keep K7)
  obtain ⟨_, _, ⟨T9, L9, k9, n9⟩, -, X9, ⟨Lc9, hQ9, l9, y9, z9⟩, st9⟩ := X8.virtualBack hx (y := (⟨"com/example/chaise/chaise/core/PackedInts", "get", "(I)I"⟩ : MethodName)) (z := (⟨"com/example/chaise/chaise/core/PackedInts", "get", "(I)I"⟩ : MethodName)) hown (mvT hZ (hw _ (List.mem_of_getElem? (i := 41) rfl))) (mvT hZ (hw _ (List.mem_of_getElem? (i := 22) rfl))) (notFace_of_selects (args := #[]) (mvT hZ (hw _ (List.mem_of_getElem? (i := 24) rfl)))) (mvT hZ (hw _ (List.mem_of_getElem? (i := 24) rfl))) (mvT hZ (hw _ (List.mem_of_getElem? (i := 23) rfl))) (by decide) (backOf (W := 2) (rmG1 l Z a0 hw [] a1 (1 : Int32) x0 x1 x2 T7.heap n0 (Nat.le_trans (Nat.le_trans (Nat.le_trans Z0 E2.1) K4.1) K7.1) (Or.inl ⟨arr, k, ⟨(((E_a1.ext E2).keep K4).keep K7), (((F_length_a1.ext E2).keep K4 (ninS ne_a1_b2 nin0)).keep K7 (ninS ne_a1_ar4 nin0)), (((F_bytes_a1.ext E2).keep K4 (ninS ne_a1_b2 nin0)).keep K7 (ninS ne_a1_ar4 nin0)), (((F_width_a1.ext E2).keep K4 (ninS ne_a1_b2 nin0)).keep K7 (ninS ne_a1_ar4 nin0)), (((V_arr.ext E2).keep K4 (ninS ne_arr_b2 nin0)).keep K7 (ninS ne_arr_ar4 nin0)), ne_a1_arr, hf0_a1, hf1_a1, hf2_a1⟩, g_arr⟩) (rfl)) hZ (hw _ (List.mem_of_getElem? (i := 25) rfl)) (hw _ (List.mem_of_getElem? (i := 2) rfl)) (by decide) (by decide)) q9a q9c (g := (mkF m 36 #[.val (.ref a1), .val (.ref b2), .val (.int (1 : Int32))] [(.int (1 : Int32)), (.ref a1), (.int (1 : Int32)), (.ref b2)])) rfl (by rw [hml]; rfl) (Steps.refl _) (argsL := [(.int (1 : Int32))]) (rest := [(.int (1 : Int32)), (.ref b2)]) (lenOf pd_1 rfl) rfl (by show 2 * 0 + _ ≤ _; exact Nat.le_of_eq rfl) (hb hby d7_36) (fun _ _ => ⟨rfl, e8, (by decide : 2 + 0 ≤ _), (by decide : 15 + 0 ≤ _)⟩)
  dsimp only [Pt.U, Pt.locs, Pt.cells, Pt.slots] at X9 l9 y9 z9 st9 hQ9
  subst l9 y9 z9
  obtain ⟨rfl, N9q, e9⟩ := hQ9
  have N9 := Fr.app N7 N9q
  refine Goes.tr (U' := T9.setTop (mkF m 39 #[.val (.ref a1), .val (.ref b2), .val (.int (1 : Int32))] [(.int x1), (.int (1 : Int32)), (.ref b2)])) st9 ?_
  obtain ⟨cq10, kq10, q10a, q10b, q10c⟩ := isOf hZ e9 I7.1
  obtain ⟨_, _, ⟨T10, L10, k10, n10⟩, -, X10, ⟨Lc10, hQ10, l10, y10, z10⟩, st10⟩ := X9.virtualBack hx (y := (⟨"com/example/chaise/chaise/core/PackedInts", "set", "(II)V"⟩ : MethodName)) (z := (⟨"com/example/chaise/chaise/core/PackedInts", "set", "(II)V"⟩ : MethodName)) hown (mvT hZ (hw _ (List.mem_of_getElem? (i := 42) rfl))) (mvT hZ (hw _ (List.mem_of_getElem? (i := 27) rfl))) (notFace_of_selects (args := #[]) (mvT hZ (hw _ (List.mem_of_getElem? (i := 29) rfl)))) (mvT hZ (hw _ (List.mem_of_getElem? (i := 29) rfl))) (mvT hZ (hw _ (List.mem_of_getElem? (i := 28) rfl))) (by decide) (backOf (W := 0) (rmT1 l Z a0 hw [] b2 (1 : Int32) x1 ar4 ka4 x0 (0 : Int32) (0 : Int32) T7.heap n0 (Nat.le_trans (Nat.le_trans (Nat.le_trans Z0 E2.1) K4.1) K7.1) (I7) (rfl) (g_ar4)) hZ (hw _ (List.mem_of_getElem? (i := 30) rfl)) (hw _ (List.mem_of_getElem? (i := 2) rfl)) (by decide) (by decide)) q10a q10c (g := (mkF m 39 #[.val (.ref a1), .val (.ref b2), .val (.int (1 : Int32))] [(.int x1), (.int (1 : Int32)), (.ref b2)])) rfl (by rw [hml]; rfl) (Steps.refl _) (argsL := [(.int (1 : Int32)), (.int x1)]) (rest := []) (lenOf pd_0 rfl) rfl (by show 2 * 0 + _ ≤ _; exact Nat.le_of_eq rfl) (hb hby d7_39) (fun _ _ => ⟨rfl, e9, (by decide : 2 + 0 ≤ _), (by decide : 15 + 0 ≤ _)⟩)
  dsimp only [Pt.U, Pt.locs, Pt.cells, Pt.slots] at X10 l10 y10 z10 st10 hQ10
  subst l10 y10 z10
  obtain ⟨rfl, N10q, K10, I10⟩ := hQ10
  have N10 := Fr.app N9 N10q
  refine Goes.tr (U' := T10.setTop (mkF m 42 #[.val (.ref a1), .val (.ref b2), .val (.int (1 : Int32))] [])) st10 ?_
  refine Goes.st (U' := T10.setTop (mkF m 45 #[.val (.ref a1), .val (.ref b2), .val (.int (2 : Int32))] [])) (fun t k => XS.iinc X10.here hx rfl (hb hby d7_42) rfl (l' := #[.val (.ref a1), .val (.ref b2), .val (.int (2 : Int32))]) rfl k) ?_
  refine Goes.st (U' := T10.setTop (mkF m 24 #[.val (.ref a1), .val (.ref b2), .val (.int (2 : Int32))] [])) (fun t k => XS.goto X10.here hx rfl (pc0 := 45) (pc' := 24) rfl (hb hby d7_45) (by decide) (by decide) k) ?_
  refine Goes.st (U' := T10.setTop (mkF m 25 #[.val (.ref a1), .val (.ref b2), .val (.int (2 : Int32))] [(.int (2 : Int32))])) (fun t k => XS.iloadN X10.here hx rfl (hb hby d7_24) rfl k) ?_
  refine Goes.st (U' := T10.setTop (mkF m 26 #[.val (.ref a1), .val (.ref b2), .val (.int (2 : Int32))] [(.ref a1), (.int (2 : Int32))])) (fun t k => XS.aloadN X10.here hx rfl (hb hby d7_25) rfl rfl k) ?_
  obtain ⟨T11, X11, e11, st11⟩ := getF X10 hx hZ hown (host := "") (Or.inl (hw _ (List.mem_of_getElem? (i := 13) rfl))) Via.refl rfl ((((F_length_a1.ext E2).keep K4 (ninS ne_a1_b2 nin0)).keep K7 (ninS ne_a1_ar4 nin0)).keep K10 (ninS ne_a1_ar4 nin0)) (g := (mkF m 26 #[.val (.ref a1), .val (.ref b2), .val (.int (2 : Int32))] [(.ref a1), (.int (2 : Int32))])) rfl rfl (hb hby d7_26)
  refine Goes.st (U' := T11.setTop (mkF m 29 #[.val (.ref a1), .val (.ref b2), .val (.int (2 : Int32))] [(.int (3 : Int32)), (.int (2 : Int32))])) (fun t k => st11 t k) ?_
  refine Goes.st (U' := T11.setTop (mkF m 32 #[.val (.ref a1), .val (.ref b2), .val (.int (2 : Int32))] [])) (fun t k => XS.icmpNo X11.here hx rfl (hb hby d7_29) rfl (tlt (by decide : (2 : Int32) < (3 : Int32))).2.1 k) ?_
  refine Goes.st (U' := T11.setTop (mkF m 33 #[.val (.ref a1), .val (.ref b2), .val (.int (2 : Int32))] [(.ref b2)])) (fun t k => XS.aloadN X11.here hx rfl (hb hby d7_32) rfl rfl k) ?_
  refine Goes.st (U' := T11.setTop (mkF m 34 #[.val (.ref a1), .val (.ref b2), .val (.int (2 : Int32))] [(.int (2 : Int32)), (.ref b2)])) (fun t k => XS.iloadN X11.here hx rfl (hb hby d7_33) rfl k) ?_
  refine Goes.st (U' := T11.setTop (mkF m 35 #[.val (.ref a1), .val (.ref b2), .val (.int (2 : Int32))] [(.ref a1), (.int (2 : Int32)), (.ref b2)])) (fun t k => XS.aloadN X11.here hx rfl (hb hby d7_34) rfl rfl k) ?_
  refine Goes.st (U' := T11.setTop (mkF m 36 #[.val (.ref a1), .val (.ref b2), .val (.int (2 : Int32))] [(.int (2 : Int32)), (.ref a1), (.int (2 : Int32)), (.ref b2)])) (fun t k => XS.iloadN X11.here hx rfl (hb hby d7_35) rfl k) ?_
  obtain ⟨cq12, kq12, q12a, q12b, q12c⟩ := isOf hZ e11 ((((E_a1.ext E2).keep K4).keep K7).keep K10)
  obtain ⟨_, _, ⟨T12, L12, k12, n12⟩, -, X12, ⟨Lc12, hQ12, l12, y12, z12⟩, st12⟩ := X11.virtualBack hx (y := (⟨"com/example/chaise/chaise/core/PackedInts", "get", "(I)I"⟩ : MethodName)) (z := (⟨"com/example/chaise/chaise/core/PackedInts", "get", "(I)I"⟩ : MethodName)) hown (mvT hZ (hw _ (List.mem_of_getElem? (i := 41) rfl))) (mvT hZ (hw _ (List.mem_of_getElem? (i := 22) rfl))) (notFace_of_selects (args := #[]) (mvT hZ (hw _ (List.mem_of_getElem? (i := 24) rfl)))) (mvT hZ (hw _ (List.mem_of_getElem? (i := 24) rfl))) (mvT hZ (hw _ (List.mem_of_getElem? (i := 23) rfl))) (by decide) (backOf (W := 2) (rmG2 l Z a0 hw [] a1 (2 : Int32) x0 x1 x2 T10.heap n0 (Nat.le_trans (Nat.le_trans (Nat.le_trans (Nat.le_trans Z0 E2.1) K4.1) K7.1) K10.1) (Or.inl ⟨arr, k, ⟨((((E_a1.ext E2).keep K4).keep K7).keep K10), ((((F_length_a1.ext E2).keep K4 (ninS ne_a1_b2 nin0)).keep K7 (ninS ne_a1_ar4 nin0)).keep K10 (ninS ne_a1_ar4 nin0)), ((((F_bytes_a1.ext E2).keep K4 (ninS ne_a1_b2 nin0)).keep K7 (ninS ne_a1_ar4 nin0)).keep K10 (ninS ne_a1_ar4 nin0)), ((((F_width_a1.ext E2).keep K4 (ninS ne_a1_b2 nin0)).keep K7 (ninS ne_a1_ar4 nin0)).keep K10 (ninS ne_a1_ar4 nin0)), ((((V_arr.ext E2).keep K4 (ninS ne_arr_b2 nin0)).keep K7 (ninS ne_arr_ar4 nin0)).keep K10 (ninS ne_arr_ar4 nin0)), ne_a1_arr, hf0_a1, hf1_a1, hf2_a1⟩, g_arr⟩) (rfl)) hZ (hw _ (List.mem_of_getElem? (i := 25) rfl)) (hw _ (List.mem_of_getElem? (i := 2) rfl)) (by decide) (by decide)) q12a q12c (g := (mkF m 36 #[.val (.ref a1), .val (.ref b2), .val (.int (2 : Int32))] [(.int (2 : Int32)), (.ref a1), (.int (2 : Int32)), (.ref b2)])) rfl (by rw [hml]; rfl) (Steps.refl _) (argsL := [(.int (2 : Int32))]) (rest := [(.int (2 : Int32)), (.ref b2)]) (lenOf pd_1 rfl) rfl (by show 2 * 0 + _ ≤ _; exact Nat.le_of_eq rfl) (hb hby d7_36) (fun _ _ => ⟨rfl, e11, (by decide : 2 + 0 ≤ _), (by decide : 15 + 0 ≤ _)⟩)
  dsimp only [Pt.U, Pt.locs, Pt.cells, Pt.slots] at X12 l12 y12 z12 st12 hQ12
  subst l12 y12 z12
  obtain ⟨rfl, N12q, e12⟩ := hQ12
  have N12 := Fr.app N10 N12q
  refine Goes.tr (U' := T12.setTop (mkF m 39 #[.val (.ref a1), .val (.ref b2), .val (.int (2 : Int32))] [(.int x2), (.int (2 : Int32)), (.ref b2)])) st12 ?_
  obtain ⟨cq13, kq13, q13a, q13b, q13c⟩ := isOf hZ e12 I10.1
  obtain ⟨_, _, ⟨T13, L13, k13, n13⟩, -, X13, ⟨Lc13, hQ13, l13, y13, z13⟩, st13⟩ := X12.virtualBack hx (y := (⟨"com/example/chaise/chaise/core/PackedInts", "set", "(II)V"⟩ : MethodName)) (z := (⟨"com/example/chaise/chaise/core/PackedInts", "set", "(II)V"⟩ : MethodName)) hown (mvT hZ (hw _ (List.mem_of_getElem? (i := 42) rfl))) (mvT hZ (hw _ (List.mem_of_getElem? (i := 27) rfl))) (notFace_of_selects (args := #[]) (mvT hZ (hw _ (List.mem_of_getElem? (i := 29) rfl)))) (mvT hZ (hw _ (List.mem_of_getElem? (i := 29) rfl))) (mvT hZ (hw _ (List.mem_of_getElem? (i := 28) rfl))) (by decide) (backOf (W := 0) (rmT2 l Z a0 hw [] b2 (2 : Int32) x2 ar4 ka4 x0 x1 (0 : Int32) T10.heap n0 (Nat.le_trans (Nat.le_trans (Nat.le_trans (Nat.le_trans Z0 E2.1) K4.1) K7.1) K10.1) (I10) (rfl) (g_ar4)) hZ (hw _ (List.mem_of_getElem? (i := 30) rfl)) (hw _ (List.mem_of_getElem? (i := 2) rfl)) (by decide) (by decide)) q13a q13c (g := (mkF m 39 #[.val (.ref a1), .val (.ref b2), .val (.int (2 : Int32))] [(.int x2), (.int (2 : Int32)), (.ref b2)])) rfl (by rw [hml]; rfl) (Steps.refl _) (argsL := [(.int (2 : Int32)), (.int x2)]) (rest := []) (lenOf pd_0 rfl) rfl (by show 2 * 0 + _ ≤ _; exact Nat.le_of_eq rfl) (hb hby d7_39) (fun _ _ => ⟨rfl, e12, (by decide : 2 + 0 ≤ _), (by decide : 15 + 0 ≤ _)⟩)
  dsimp only [Pt.U, Pt.locs, Pt.cells, Pt.slots] at X13 l13 y13 z13 st13 hQ13
  subst l13 y13 z13
  obtain ⟨rfl, N13q, K13, I13⟩ := hQ13
  have N13 := Fr.app N12 N13q
  refine Goes.tr (U' := T13.setTop (mkF m 42 #[.val (.ref a1), .val (.ref b2), .val (.int (2 : Int32))] [])) st13 ?_
  refine Goes.st (U' := T13.setTop (mkF m 45 #[.val (.ref a1), .val (.ref b2), .val (.int (3 : Int32))] [])) (fun t k => XS.iinc X13.here hx rfl (hb hby d7_42) rfl (l' := #[.val (.ref a1), .val (.ref b2), .val (.int (3 : Int32))]) rfl k) ?_
  refine Goes.st (U' := T13.setTop (mkF m 24 #[.val (.ref a1), .val (.ref b2), .val (.int (3 : Int32))] [])) (fun t k => XS.goto X13.here hx rfl (pc0 := 45) (pc' := 24) rfl (hb hby d7_45) (by decide) (by decide) k) ?_
  refine Goes.st (U' := T13.setTop (mkF m 25 #[.val (.ref a1), .val (.ref b2), .val (.int (3 : Int32))] [(.int (3 : Int32))])) (fun t k => XS.iloadN X13.here hx rfl (hb hby d7_24) rfl k) ?_
  refine Goes.st (U' := T13.setTop (mkF m 26 #[.val (.ref a1), .val (.ref b2), .val (.int (3 : Int32))] [(.ref a1), (.int (3 : Int32))])) (fun t k => XS.aloadN X13.here hx rfl (hb hby d7_25) rfl rfl k) ?_
  obtain ⟨T14, X14, e14, st14⟩ := getF X13 hx hZ hown (host := "") (Or.inl (hw _ (List.mem_of_getElem? (i := 13) rfl))) Via.refl rfl (((((F_length_a1.ext E2).keep K4 (ninS ne_a1_b2 nin0)).keep K7 (ninS ne_a1_ar4 nin0)).keep K10 (ninS ne_a1_ar4 nin0)).keep K13 (ninS ne_a1_ar4 nin0)) (g := (mkF m 26 #[.val (.ref a1), .val (.ref b2), .val (.int (3 : Int32))] [(.ref a1), (.int (3 : Int32))])) rfl rfl (hb hby d7_26)
  refine Goes.st (U' := T14.setTop (mkF m 29 #[.val (.ref a1), .val (.ref b2), .val (.int (3 : Int32))] [(.int (3 : Int32)), (.int (3 : Int32))])) (fun t k => st14 t k) ?_
  refine Goes.st (U' := T14.setTop (mkF m 48 #[.val (.ref a1), .val (.ref b2), .val (.int (3 : Int32))] [])) (fun t k => XS.icmpYes X14.here hx rfl (pc0 := 29) (pc' := 48) rfl (hb hby d7_29) rfl (flt (by decide : ¬ ((3 : Int32) < (3 : Int32)))).2.1 (by decide) (by decide) k) ?_
  have Pb := I13
  obtain ⟨E_b2, F_length_b2, F_bytes_b2, F_width_b2, V_ar4, ne_b2_ar4⟩ := I13
  refine Goes.st (U' := T14.setTop (mkF m 49 #[.val (.ref a1), .val (.ref b2), .val (.int (3 : Int32))] [(.ref a1)])) (fun t k => XS.aloadN X14.here hx rfl (hb hby d7_48) rfl rfl k) ?_
  refine Goes.st (U' := T14.setTop (mkF m 50 #[.val (.ref a1), .val (.ref b2), .val (.int (3 : Int32))] [(.ref b2), (.ref a1)])) (fun t k => XS.aloadN X14.here hx rfl (hb hby d7_49) rfl rfl k) ?_
  obtain ⟨T15, X15, e15, st15⟩ := getF X14 hx hZ hown (host := "") (Or.inl (hw _ (List.mem_of_getElem? (i := 16) rfl))) Via.refl e14 F_bytes_b2 (g := (mkF m 50 #[.val (.ref a1), .val (.ref b2), .val (.int (3 : Int32))] [(.ref b2), (.ref a1)])) rfl rfl (hb hby d7_50)
  refine Goes.st (U' := T15.setTop (mkF m 53 #[.val (.ref a1), .val (.ref b2), .val (.int (3 : Int32))] [(.ref ar4), (.ref a1)])) (fun t k => st15 t k) ?_
  obtain ⟨T16, h16, X16, e16, W16, st16⟩ := putF X15 hx hZ hown (host := "") (Or.inl (hw _ (List.mem_of_getElem? (i := 16) rfl))) Via.refl e15 (((((F_bytes_a1.ext E2).keep K4 (ninS ne_a1_b2 nin0)).keep K7 (ninS ne_a1_ar4 nin0)).keep K10 (ninS ne_a1_ar4 nin0)).keep K13 (ninS ne_a1_ar4 nin0)) (((((E_a1.ext E2).keep K4).keep K7).keep K10).keep K13) (Or.inl (hw _ (List.mem_of_getElem? (i := 17) rfl))) (hw _ (List.mem_of_getElem? (i := 1) rfl)) (ty := (.array .byte)) (by decide) rfl rfl (g := (mkF m 53 #[.val (.ref a1), .val (.ref b2), .val (.int (3 : Int32))] [(.ref ar4), (.ref a1)])) rfl rfl (hb hby d7_53)
  have Fw16 := (((((F_bytes_a1.ext E2).keep K4 (ninS ne_a1_b2 nin0)).keep K7 (ninS ne_a1_ar4 nin0)).keep K10 (ninS ne_a1_ar4 nin0)).keep K13 (ninS ne_a1_ar4 nin0)).same W16
  have N16 := Fr.snoc X16 N13 g_a1
  refine Goes.st (U' := T16.setTop (mkF m 56 #[.val (.ref a1), .val (.ref b2), .val (.int (3 : Int32))] [])) (fun t k => st16 t k) ?_
  refine Goes.st (U' := T16.setTop (mkF m 57 #[.val (.ref a1), .val (.ref b2), .val (.int (3 : Int32))] [(.ref a1)])) (fun t k => XS.aloadN X16.here hx rfl (hb hby d7_56) rfl rfl k) ?_
  refine Goes.st (U' := T16.setTop (mkF m 58 #[.val (.ref a1), .val (.ref b2), .val (.int (3 : Int32))] [(.int (4 : Int32)), (.ref a1)])) (fun t k => XS.iconst X16.here hx rfl (hb hby d7_57) k) ?_
  obtain ⟨T17, h17, X17, e17, W17, st17⟩ := putF X16 hx hZ hown (host := "") (Or.inl (hw _ (List.mem_of_getElem? (i := 18) rfl))) Via.refl e16 ((((((F_width_a1.ext E2).keep K4 (ninS ne_a1_b2 nin0)).keep K7 (ninS ne_a1_ar4 nin0)).keep K10 (ninS ne_a1_ar4 nin0)).keep K13 (ninS ne_a1_ar4 nin0)).other W16 (Or.inr (slot_ne (Or.inl (hw _ (List.mem_of_getElem? (i := 19) rfl))) (Or.inl (hw _ (List.mem_of_getElem? (i := 17) rfl))) (by decide) (t := .int) (t' := (.array .byte)) (by decide) (by decide)))) ((((((E_a1.ext E2).keep K4).keep K7).keep K10).keep K13).wr W16) (Or.inl (hw _ (List.mem_of_getElem? (i := 19) rfl))) (hw _ (List.mem_of_getElem? (i := 1) rfl)) (ty := .int) (by decide) rfl rfl (g := (mkF m 58 #[.val (.ref a1), .val (.ref b2), .val (.int (3 : Int32))] [(.int (4 : Int32)), (.ref a1)])) rfl rfl (hb hby d7_58)
  have Fw17 := ((((((F_width_a1.ext E2).keep K4 (ninS ne_a1_b2 nin0)).keep K7 (ninS ne_a1_ar4 nin0)).keep K10 (ninS ne_a1_ar4 nin0)).keep K13 (ninS ne_a1_ar4 nin0)).other W16 (Or.inr (slot_ne (Or.inl (hw _ (List.mem_of_getElem? (i := 19) rfl))) (Or.inl (hw _ (List.mem_of_getElem? (i := 17) rfl))) (by decide) (t := .int) (t' := (.array .byte)) (by decide) (by decide)))).same W17
  have N17 := Fr.snoc X17 N16 g_a1
  refine Goes.st (U' := T17.setTop (mkF m 61 #[.val (.ref a1), .val (.ref b2), .val (.int (3 : Int32))] [])) (fun t k => st17 t k) ?_
  refine Goes.retV X17 hx (BodyLoose.notSynchronized Bd) Bd.returns (hb hby d7_61) (by decide) (by decide) ?_
  show Q7 Z a1 arr k x0 x1 x2 h0 n0 _ T17.heap _
  rw [e17]
  exact ⟨rfl, N17, (Nat.le_trans (Nat.le_trans (Nat.le_trans (Nat.le_trans (Nat.le_trans (Nat.le_trans (Nat.le_trans Z0 E2.1) K4.1) K7.1) K10.1) K13.1) (Nat.le_of_eq W16.size.symm)) (Nat.le_of_eq W17.size.symm)), ar4, ka4, ⟨(((((((E_a1.ext E2).keep K4).keep K7).keep K10).keep K13).wr W16).wr W17), (((((((F_length_a1.ext E2).keep K4 (ninS ne_a1_b2 nin0)).keep K7 (ninS ne_a1_ar4 nin0)).keep K10 (ninS ne_a1_ar4 nin0)).keep K13 (ninS ne_a1_ar4 nin0)).other W16 (Or.inr (slot_ne (Or.inr (hw _ (List.mem_of_getElem? (i := 14) rfl))) (Or.inl (hw _ (List.mem_of_getElem? (i := 17) rfl))) (by decide) (t := .int) (t' := (.array .byte)) (by decide) (by decide)))).other W17 (Or.inr (slot_ne (Or.inr (hw _ (List.mem_of_getElem? (i := 14) rfl))) (Or.inl (hw _ (List.mem_of_getElem? (i := 19) rfl))) (by decide) (t := .int) (t' := .int) (by decide) (by decide)))), (Fw16.other W17 (Or.inr (slot_ne (Or.inl (hw _ (List.mem_of_getElem? (i := 17) rfl))) (Or.inl (hw _ (List.mem_of_getElem? (i := 19) rfl))) (by decide) (t := (.array .byte)) (t' := .int) (by decide) (by decide)))), Fw17, ((V_ar4.other W16 (Ne.symm ne_a1_ar4)).other W17 (Ne.symm ne_a1_ar4)), ne_a1_ar4⟩, g_ar4⟩
theorem d5_8 : decode prog_81_method_6_code 8 = .ok (.iload_n 2, 1) := by decide +kernel
theorem d5_9 : decode prog_81_method_6_code 9 = .ok (.invokestatic 42, 3) := by decide +kernel
theorem d5_12 : decode prog_81_method_6_code 12 = .ok (.ifCond .ne 7, 3) := by decide +kernel
theorem d5_15 : decode prog_81_method_6_code 15 = .ok (.aload_n 0, 1) := by decide +kernel
theorem d5_16 : decode prog_81_method_6_code 16 = .ok (.invokevirtual 61, 3) := by decide +kernel
theorem pd_2 : parseMethodDescriptor "(I)Z" = some ⟨[.int], some .boolean⟩ := by decide +kernel
theorem pd_3 : parseMethodDescriptor "()V" = some ⟨[], none⟩ := by decide +kernel
theorem ef_rmS0 (m : MethodId) (a1 : Addr) (p2 : Int32) (p3 : Int32) : entryFrame m #[(.ref a1), (.int p2), (.int p3)] 4 = mkF m 0 #[.val (.ref a1), .val (.int p2), .val (.int p3), .unset] [] := by first | (simp [entryFrame, mkF, argsToLocals, Value.category]; done) | rfl
def Q_rmS0 (Z : State) (a1 : Addr) (p2 : Int32) (p3 : Int32) (x0 : Int32) (x1 : Int32) (x2 : Int32) (h0 : Heap) (n0 : Nat) (v : Option Value) (h : Heap) (L : List Loc) : Prop := v = none ∧ Fr n0 L ∧ n0 ≤ h.size ∧ PI Z h a1 n0 p3 x1 x2
set_option maxRecDepth 65536 in
set_option maxHeartbeats 40000000 in
theorem rmS0 (l : Launch) (Z : State) (a0 : Array Value) (hw : ∀ d ∈ tables_1, d.before a0 Z = true) (ws : List Jvm.Cond) (a1 : Addr) (p2 : Int32) (p3 : Int32) (x0 : Int32) (x1 : Int32) (x2 : Int32) (h0 : Heap) (n0 : Nat) (Z0 : n0 ≤ h0.size) (I : PI Z h0 a1 n0 x0 x1 x2) (e2 : p2 = (0 : Int32)) (g_a1 : n0 ≤ a1) :
    MetFree l (⟨"com/example/chaise/chaise/core/PackedInts", "set", "(II)V"⟩ : MethodName) (head1 (Jvm.Cond.code (⟨"com/example/chaise/chaise/core/PackedInts", "set", "(II)V"⟩ : MethodName) prog_81_method_6_code 4 none :: ws) ({ frames := 3, cells := 2, slots := 15, locals := 43 } : Room)) (fun a U => a = #[(.ref a1), (.int p2), (.int p3)] ∧ Z.Warmed39 U.vm ∧ U.heap = h0) (fun _ _ _ _ _ => True) (fun _ U o U' => ∃ v L, o = .returned v ∧ Q_rmS0 Z a1 (0 : Int32) p3 x0 x1 x2 h0 n0 v U'.heap L ∧ FrameEnd U o U' L ({ frames := 3, cells := 2, slots := 15, locals := 43 } : Room).cells ({ frames := 3, cells := 2, slots := 15, locals := 43 } : Room).slots) := by
  refine MetFree.of_bodySF (plainFor_of_name pn_0) hisR ?_
  intro p e s m args below meth c s₁ Bd hml0 hP hK
  obtain ⟨rfl, hZ, hh⟩ := hP
  have hx := Bd.exec
  have hby := Bd.bytes
  have hml : c.maxLocals = 4 := hml0
  have hown : s.vm.findClass "com/example/chaise/chaise/core/PackedInts" = some m.cls := findClass_of_methodNamed Bd.named
  have hnm := (name_of_methodNamed Bd.named Bd.method).1
  have X0 : Stand p l e ({ frames := 3, cells := 2, slots := 15, locals := 43 } : Room) s m #[(.ref a1), (.int p2), (.int p3)] below meth c s₁ [] 0 0 := Stand.of_body Bd
  have e0 : s₁.heap = h0 := by rw [← hh, Bd.state]; rfl
  have N0 := Fr.nil n0
  show Goes p e s below (fun v h L => Q_rmS0 Z a1 (0 : Int32) p3 x0 x1 x2 h0 n0 v h L) ({ frames := 3, cells := 2, slots := 15, locals := 43 } : Room).cells ({ frames := 3, cells := 2, slots := 15, locals := 43 } : Room).slots (s₁.setTop (entryFrame m #[(.ref a1), (.int p2), (.int p3)] 4))
  refine Goes.st (U' := s₁.setTop (mkF m 0 #[.val (.ref a1), .val (.int p2), .val (.int p3), .unset] [])) (fun t k => castTop (ef_rmS0 m a1 p2 p3) k) ?_
  subst e2
  rcases I with ⟨arr, k, P, g_arr⟩ | ⟨arr, k, P, g_arr⟩
  · have Pc := P
    obtain ⟨E_a1, F_length_a1, F_bytes_a1, F_width_a1, V_arr, ne_a1_arr, hf0_a1, hf1_a1, hf2_a1⟩ := P
    refine Goes.st (U' := s₁.setTop (mkF m 1 #[.val (.ref a1), .val (.int (0 : Int32)), .val (.int p3), .unset] [(.ref a1)])) (fun t k => XS.aloadN X0.here hx rfl (hb hby d5_0) rfl rfl k) ?_
    obtain ⟨T1, X1, e1, st1⟩ := getF X0 hx hZ hown (host := "") (Or.inl (hw _ (List.mem_of_getElem? (i := 18) rfl))) Via.refl e0 F_width_a1 (g := (mkF m 1 #[.val (.ref a1), .val (.int (0 : Int32)), .val (.int p3), .unset] [(.ref a1)])) rfl rfl (hb hby d5_1)
    refine Goes.st (U' := T1.setTop (mkF m 4 #[.val (.ref a1), .val (.int (0 : Int32)), .val (.int p3), .unset] [(.int (3 : Int32))])) (fun t k => st1 t k) ?_
    refine Goes.st (U' := T1.setTop (mkF m 5 #[.val (.ref a1), .val (.int (0 : Int32)), .val (.int p3), .unset] [(.int (3 : Int32)), (.int (3 : Int32))])) (fun t k => XS.iconst X1.here hx rfl (hb hby d5_4) k) ?_
    refine Goes.st (U' := T1.setTop (mkF m 8 #[.val (.ref a1), .val (.int (0 : Int32)), .val (.int p3), .unset] [])) (fun t k => XS.icmpNo X1.here hx rfl (hb hby d5_5) rfl (teq (rfl : (3 : Int32) = (3 : Int32))).2 k) ?_
    refine Goes.st (U' := T1.setTop (mkF m 9 #[.val (.ref a1), .val (.int (0 : Int32)), .val (.int p3), .unset] [(.int p3)])) (fun t k => XS.iloadN X1.here hx rfl (hb hby d5_8) rfl k) ?_
    obtain ⟨_, _, ⟨T2, L2, k2, n2⟩, -, X2, ⟨Lc2, hQ2, l2, y2, z2⟩, st2⟩ := Jvm.LawKit.callS X1 hx (y := (⟨"com/example/chaise/chaise/core/PackedInts", "fits", "(I)Z"⟩ : MethodName)) hown (mvT hZ (hw _ (List.mem_of_getElem? (i := 31) rfl))) (mvT hZ (hw _ (List.mem_of_getElem? (i := 32) rfl))) (mvT hZ (hw _ (List.mem_of_getElem? (i := 2) rfl))) (mvT hZ (hw _ (List.mem_of_getElem? (i := 33) rfl))) (by decide) (backOf (W := 0) (rm6 l Z a0 hw [] p3 h0 n0 Z0) hZ (hw _ (List.mem_of_getElem? (i := 33) rfl)) (hw _ (List.mem_of_getElem? (i := 2) rfl)) (by decide) (by decide)) (g := (mkF m 9 #[.val (.ref a1), .val (.int (0 : Int32)), .val (.int p3), .unset] [(.int p3)])) rfl (by rw [hml]; rfl) (argsL := [(.int p3)]) (rest := []) (lenOf pd_2 rfl) rfl (by show 2 * 0 + _ ≤ _; exact Nat.le_of_eq rfl) (hb hby d5_9) (fun _ _ => ⟨rfl, e1, (by decide : 0 + 0 ≤ _), (by decide : 0 + 0 ≤ _)⟩)
    dsimp only [Pt.U, Pt.locs, Pt.cells, Pt.slots] at X2 l2 y2 z2 st2 hQ2
    subst l2 y2 z2
    obtain ⟨rfl, N2q, e2⟩ := hQ2
    have N2 := Fr.app N0 N2q
    refine Goes.st (U' := T2.setTop (mkF m 12 #[.val (.ref a1), .val (.int (0 : Int32)), .val (.int p3), .unset] [(.int (fnfits p3))])) st2 ?_
    rcases Decidable.em ((fnfits p3) = (0 : Int32)) with hc12 | hc12
    · refine Goes.st (U' := T2.setTop (mkF m 15 #[.val (.ref a1), .val (.int (0 : Int32)), .val (.int p3), .unset] [])) (fun t k => XS.ifNo X2.here hx rfl (hb hby d5_12) rfl ((if0 _ _).trans (teq hc12).2) k) ?_
      refine Goes.st (U' := T2.setTop (mkF m 16 #[.val (.ref a1), .val (.int (0 : Int32)), .val (.int p3), .unset] [(.ref a1)])) (fun t k => XS.aloadN X2.here hx rfl (hb hby d5_15) rfl rfl k) ?_
      obtain ⟨cqz3, hqz3, hqz3'⟩ := E_a1.cell
      obtain ⟨_, _, ⟨T3, L3, k3, n3⟩, -, X3, ⟨Lc3, hQ3, l3, y3, z3⟩, st3⟩ := X2.privateBack hx (y := (⟨"com/example/chaise/chaise/core/PackedInts", "widen", "()V"⟩ : MethodName)) hown (mvT hZ (hw _ (List.mem_of_getElem? (i := 36) rfl))) (mvT hZ (hw _ (List.mem_of_getElem? (i := 37) rfl))) (own_selp (mvT hZ (hw _ (List.mem_of_getElem? (i := 1) rfl))) (Cond.privateMethod_at (mvP hZ (hw _ (List.mem_of_getElem? (i := 38) rfl)) (args := #[]))) (mvT hZ (hw _ (List.mem_of_getElem? (i := 37) rfl))) (by decide)) (Cond.privateMethod_at (mvP hZ (hw _ (List.mem_of_getElem? (i := 38) rfl)) (args := #[]))) (mvT hZ (hw _ (List.mem_of_getElem? (i := 39) rfl))) (by decide) (backOf (W := 0) (rm7 l Z a0 hw [] a1 arr k x0 x1 x2 h0 n0 Z0 (Pc) (g_a1) (g_arr)) hZ (hw _ (List.mem_of_getElem? (i := 39) rfl)) (hw _ (List.mem_of_getElem? (i := 2) rfl)) (by decide) (by decide)) (g := (mkF m 16 #[.val (.ref a1), .val (.int (0 : Int32)), .val (.int p3), .unset] [(.ref a1)])) rfl (by rw [hml]; rfl) (Steps.refl _) (a := a1) (by rw [e2]; exact hqz3) hqz3' (argsL := []) (rest := []) (lenOf pd_3 rfl) rfl (by show 2 * 0 + _ ≤ _; exact Nat.le_of_eq rfl) (hb hby d5_16) (fun _ _ => ⟨rfl, e2, (by decide : 0 + 2 ≤ _), (by decide : 0 + 15 ≤ _)⟩)
      dsimp only [Pt.U, Pt.locs, Pt.cells, Pt.slots] at X3 l3 y3 z3 st3 hQ3
      subst l3 y3 z3
      obtain ⟨rfl, N3q, Z3, ar3, ka3, I3, g_ar3⟩ := hQ3
      have N3 := Fr.app N2 N3q
      obtain ⟨E_a1, F_length_a1, F_bytes_a1, F_width_a1, V_ar3, ne_a1_ar3⟩ := I3
      refine Goes.tr (U' := T3.setTop (mkF m 19 #[.val (.ref a1), .val (.int (0 : Int32)), .val (.int p3), .unset] [])) st3 ?_
      refine Goes.st (U' := T3.setTop (mkF m 20 #[.val (.ref a1), .val (.int (0 : Int32)), .val (.int p3), .unset] [(.int (0 : Int32))])) (fun t k => XS.iloadN X3.here hx rfl (hb hby d5_19) rfl k) ?_
      refine Goes.st (U' := T3.setTop (mkF m 21 #[.val (.ref a1), .val (.int (0 : Int32)), .val (.int p3), .unset] [(.ref a1), (.int (0 : Int32))])) (fun t k => XS.aloadN X3.here hx rfl (hb hby d5_20) rfl rfl k) ?_
      obtain ⟨T4, X4, e4, st4⟩ := getF X3 hx hZ hown (host := "") (Or.inl (hw _ (List.mem_of_getElem? (i := 18) rfl))) Via.refl rfl F_width_a1 (g := (mkF m 21 #[.val (.ref a1), .val (.int (0 : Int32)), .val (.int p3), .unset] [(.ref a1), (.int (0 : Int32))])) rfl rfl (hb hby d5_21)
      refine Goes.st (U' := T4.setTop (mkF m 24 #[.val (.ref a1), .val (.int (0 : Int32)), .val (.int p3), .unset] [(.int (4 : Int32)), (.int (0 : Int32))])) (fun t k => st4 t k) ?_
      refine Goes.st (U' := T4.setTop (mkF m 25 #[.val (.ref a1), .val (.int (0 : Int32)), .val (.int p3), .unset] [(.int (0 : Int32))])) (fun t k => XS.imul X4.here hx rfl (hb hby d5_24) rfl k) ?_
      refine Goes.st (U' := T4.setTop (mkF m 26 #[.val (.ref a1), .val (.int (0 : Int32)), .val (.int p3), .val (.int (0 : Int32))] [])) (fun t k => XS.istoreN X4.here hx rfl (hb hby d5_25) rfl (l' := #[.val (.ref a1), .val (.int (0 : Int32)), .val (.int p3), .val (.int (0 : Int32))]) rfl k) ?_
      refine Goes.st (U' := T4.setTop (mkF m 27 #[.val (.ref a1), .val (.int (0 : Int32)), .val (.int p3), .val (.int (0 : Int32))] [(.ref a1)])) (fun t k => XS.aloadN X4.here hx rfl (hb hby d5_26) rfl rfl k) ?_
      obtain ⟨T5, X5, e5, st5⟩ := getF X4 hx hZ hown (host := "") (Or.inl (hw _ (List.mem_of_getElem? (i := 16) rfl))) Via.refl e4 F_bytes_a1 (g := (mkF m 27 #[.val (.ref a1), .val (.int (0 : Int32)), .val (.int p3), .val (.int (0 : Int32))] [(.ref a1)])) rfl rfl (hb hby d5_27)
      refine Goes.st (U' := T5.setTop (mkF m 30 #[.val (.ref a1), .val (.int (0 : Int32)), .val (.int p3), .val (.int (0 : Int32))] [(.ref ar3)])) (fun t k => st5 t k) ?_
      refine Goes.st (U' := T5.setTop (mkF m 31 #[.val (.ref a1), .val (.int (0 : Int32)), .val (.int p3), .val (.int (0 : Int32))] [(.int (0 : Int32)), (.ref ar3)])) (fun t k => XS.iloadN X5.here hx rfl (hb hby d5_30) rfl k) ?_
      refine Goes.st (U' := T5.setTop (mkF m 32 #[.val (.ref a1), .val (.int (0 : Int32)), .val (.int p3), .val (.int (0 : Int32))] [(.int p3), (.int (0 : Int32)), (.ref ar3)])) (fun t k => XS.iloadN X5.here hx rfl (hb hby d5_31) rfl k) ?_
      refine Goes.st (U' := T5.setTop (mkF m 33 #[.val (.ref a1), .val (.int (0 : Int32)), .val (.int p3), .val (.int (0 : Int32))] [(.int (p3.toInt8.toInt32)), (.int (0 : Int32)), (.ref ar3)])) (fun t k => XS.i2b X5.here hx rfl (hb hby d5_32) rfl k) ?_
      have Vx6 := V_ar3
      obtain ⟨cl6, Ar6, qa6, S6, Nn6, H6, G6⟩ := Vx6
      have hin6 : ¬ ((0 : Int32) < 0 ∨ cl6.slots.size ≤ ((0 : Int32)).toNatClampNeg) := inb_of S6 ⟨by decide, by decide⟩
      obtain ⟨T6, h6, X6, e6, W6, st6⟩ := stB X5 hx hZ e5 Ar6 (j := (0 : Int32)) hin6 (g := (mkF m 33 #[.val (.ref a1), .val (.int (0 : Int32)), .val (.int p3), .val (.int (0 : Int32))] [(.int (p3.toInt8.toInt32)), (.int (0 : Int32)), (.ref ar3)])) rfl rfl (hb hby d5_33)
      have V6 : Arv Z h6 ar3 ka3 .byte (12 : Int32) [(.int ((p3.toInt8.toInt32).toInt8.toInt32)), (.int (own_b1 x0)), (.int (own_b2 x0)), (.int (own_b3 x0)), (.int (own_b0 x1)), (.int (own_b1 x1)), (.int (own_b2 x1)), (.int (own_b3 x1)), (.int (own_b0 x2)), (.int (own_b1 x2)), (.int (own_b2 x2)), (.int (own_b3 x2))] (.int (0 : Int32)) := Arv.set Ar6 qa6 S6 Nn6 H6 G6 (fits_nar_byte _) W6 0 rfl (Nat.le_of_ble_eq_true rfl)
      have N6 := Fr.snoc X6 N3 g_ar3
      refine Goes.st (U' := T6.setTop (mkF m 34 #[.val (.ref a1), .val (.int (0 : Int32)), .val (.int p3), .val (.int (0 : Int32))] [])) (fun t k => st6 t k) ?_
      refine Goes.st (U' := T6.setTop (mkF m 35 #[.val (.ref a1), .val (.int (0 : Int32)), .val (.int p3), .val (.int (0 : Int32))] [(.ref a1)])) (fun t k => XS.aloadN X6.here hx rfl (hb hby d5_34) rfl rfl k) ?_
      obtain ⟨T7, X7, e7, st7⟩ := getF X6 hx hZ hown (host := "") (Or.inl (hw _ (List.mem_of_getElem? (i := 16) rfl))) Via.refl e6 (F_bytes_a1.other W6 (Or.inl ne_a1_ar3)) (g := (mkF m 35 #[.val (.ref a1), .val (.int (0 : Int32)), .val (.int p3), .val (.int (0 : Int32))] [(.ref a1)])) rfl rfl (hb hby d5_35)
      refine Goes.st (U' := T7.setTop (mkF m 38 #[.val (.ref a1), .val (.int (0 : Int32)), .val (.int p3), .val (.int (0 : Int32))] [(.ref ar3)])) (fun t k => st7 t k) ?_
      refine Goes.st (U' := T7.setTop (mkF m 39 #[.val (.ref a1), .val (.int (0 : Int32)), .val (.int p3), .val (.int (0 : Int32))] [(.int (0 : Int32)), (.ref ar3)])) (fun t k => XS.iloadN X7.here hx rfl (hb hby d5_38) rfl k) ?_
      refine Goes.st (U' := T7.setTop (mkF m 40 #[.val (.ref a1), .val (.int (0 : Int32)), .val (.int p3), .val (.int (0 : Int32))] [(.int (1 : Int32)), (.int (0 : Int32)), (.ref ar3)])) (fun t k => XS.iconst X7.here hx rfl (hb hby d5_39) k) ?_
      refine Goes.st (U' := T7.setTop (mkF m 41 #[.val (.ref a1), .val (.int (0 : Int32)), .val (.int p3), .val (.int (0 : Int32))] [(.int (1 : Int32)), (.ref ar3)])) (fun t k => XS.iadd X7.here hx rfl (hb hby d5_40) rfl k) ?_
      refine Goes.st (U' := T7.setTop (mkF m 42 #[.val (.ref a1), .val (.int (0 : Int32)), .val (.int p3), .val (.int (0 : Int32))] [(.int p3), (.int (1 : Int32)), (.ref ar3)])) (fun t k => XS.iloadN X7.here hx rfl (hb hby d5_41) rfl k) ?_
      refine Goes.st (U' := T7.setTop (mkF m 44 #[.val (.ref a1), .val (.int (0 : Int32)), .val (.int p3), .val (.int (0 : Int32))] [(.int (8 : Int32)), (.int p3), (.int (1 : Int32)), (.ref ar3)])) (fun t k => XS.bipush X7.here hx rfl (hb hby d5_42) k) ?_
      refine Goes.st (U' := T7.setTop (mkF m 45 #[.val (.ref a1), .val (.int (0 : Int32)), .val (.int p3), .val (.int (0 : Int32))] [(.int (p3 >>> ((8 : Int32) &&& 31))), (.int (1 : Int32)), (.ref ar3)])) (fun t k => XS.ishr X7.here hx rfl (hb hby d5_44) rfl k) ?_
      refine Goes.st (U' := T7.setTop (mkF m 46 #[.val (.ref a1), .val (.int (0 : Int32)), .val (.int p3), .val (.int (0 : Int32))] [(.int ((p3 >>> ((8 : Int32) &&& 31)).toInt8.toInt32)), (.int (1 : Int32)), (.ref ar3)])) (fun t k => XS.i2b X7.here hx rfl (hb hby d5_45) rfl k) ?_
      have Vx8 := V6
      obtain ⟨cl8, Ar8, qa8, S8, Nn8, H8, G8⟩ := Vx8
      have hin8 : ¬ ((1 : Int32) < 0 ∨ cl8.slots.size ≤ ((1 : Int32)).toNatClampNeg) := inb_of S8 ⟨by decide, by decide⟩
      obtain ⟨T8, h8, X8, e8, W8, st8⟩ := stB X7 hx hZ e7 Ar8 (j := (1 : Int32)) hin8 (g := (mkF m 46 #[.val (.ref a1), .val (.int (0 : Int32)), .val (.int p3), .val (.int (0 : Int32))] [(.int ((p3 >>> ((8 : Int32) &&& 31)).toInt8.toInt32)), (.int (1 : Int32)), (.ref ar3)])) rfl rfl (hb hby d5_46)
      have V8 : Arv Z h8 ar3 ka3 .byte (12 : Int32) [(.int ((p3.toInt8.toInt32).toInt8.toInt32)), (.int (((p3 >>> ((8 : Int32) &&& 31)).toInt8.toInt32).toInt8.toInt32)), (.int (own_b2 x0)), (.int (own_b3 x0)), (.int (own_b0 x1)), (.int (own_b1 x1)), (.int (own_b2 x1)), (.int (own_b3 x1)), (.int (own_b0 x2)), (.int (own_b1 x2)), (.int (own_b2 x2)), (.int (own_b3 x2))] (.int (0 : Int32)) := Arv.set Ar8 qa8 S8 Nn8 H8 G8 (fits_nar_byte _) W8 1 rfl (Nat.le_of_ble_eq_true rfl)
      have N8 := Fr.snoc X8 N6 g_ar3
      refine Goes.st (U' := T8.setTop (mkF m 47 #[.val (.ref a1), .val (.int (0 : Int32)), .val (.int p3), .val (.int (0 : Int32))] [])) (fun t k => st8 t k) ?_
      refine Goes.st (U' := T8.setTop (mkF m 48 #[.val (.ref a1), .val (.int (0 : Int32)), .val (.int p3), .val (.int (0 : Int32))] [(.ref a1)])) (fun t k => XS.aloadN X8.here hx rfl (hb hby d5_47) rfl rfl k) ?_
      obtain ⟨T9, X9, e9, st9⟩ := getF X8 hx hZ hown (host := "") (Or.inl (hw _ (List.mem_of_getElem? (i := 16) rfl))) Via.refl e8 ((F_bytes_a1.other W6 (Or.inl ne_a1_ar3)).other W8 (Or.inl ne_a1_ar3)) (g := (mkF m 48 #[.val (.ref a1), .val (.int (0 : Int32)), .val (.int p3), .val (.int (0 : Int32))] [(.ref a1)])) rfl rfl (hb hby d5_48)
      refine Goes.st (U' := T9.setTop (mkF m 51 #[.val (.ref a1), .val (.int (0 : Int32)), .val (.int p3), .val (.int (0 : Int32))] [(.ref ar3)])) (fun t k => st9 t k) ?_
      refine Goes.st (U' := T9.setTop (mkF m 52 #[.val (.ref a1), .val (.int (0 : Int32)), .val (.int p3), .val (.int (0 : Int32))] [(.int (0 : Int32)), (.ref ar3)])) (fun t k => XS.iloadN X9.here hx rfl (hb hby d5_51) rfl k) ?_
      refine Goes.st (U' := T9.setTop (mkF m 53 #[.val (.ref a1), .val (.int (0 : Int32)), .val (.int p3), .val (.int (0 : Int32))] [(.int (2 : Int32)), (.int (0 : Int32)), (.ref ar3)])) (fun t k => XS.iconst X9.here hx rfl (hb hby d5_52) k) ?_
      refine Goes.st (U' := T9.setTop (mkF m 54 #[.val (.ref a1), .val (.int (0 : Int32)), .val (.int p3), .val (.int (0 : Int32))] [(.int (2 : Int32)), (.ref ar3)])) (fun t k => XS.iadd X9.here hx rfl (hb hby d5_53) rfl k) ?_
      refine Goes.st (U' := T9.setTop (mkF m 55 #[.val (.ref a1), .val (.int (0 : Int32)), .val (.int p3), .val (.int (0 : Int32))] [(.int p3), (.int (2 : Int32)), (.ref ar3)])) (fun t k => XS.iloadN X9.here hx rfl (hb hby d5_54) rfl k) ?_
      refine Goes.st (U' := T9.setTop (mkF m 57 #[.val (.ref a1), .val (.int (0 : Int32)), .val (.int p3), .val (.int (0 : Int32))] [(.int (16 : Int32)), (.int p3), (.int (2 : Int32)), (.ref ar3)])) (fun t k => XS.bipush X9.here hx rfl (hb hby d5_55) k) ?_
      refine Goes.st (U' := T9.setTop (mkF m 58 #[.val (.ref a1), .val (.int (0 : Int32)), .val (.int p3), .val (.int (0 : Int32))] [(.int (p3 >>> ((16 : Int32) &&& 31))), (.int (2 : Int32)), (.ref ar3)])) (fun t k => XS.ishr X9.here hx rfl (hb hby d5_57) rfl k) ?_
      refine Goes.st (U' := T9.setTop (mkF m 59 #[.val (.ref a1), .val (.int (0 : Int32)), .val (.int p3), .val (.int (0 : Int32))] [(.int ((p3 >>> ((16 : Int32) &&& 31)).toInt8.toInt32)), (.int (2 : Int32)), (.ref ar3)])) (fun t k => XS.i2b X9.here hx rfl (hb hby d5_58) rfl k) ?_
      have Vx10 := V8
      obtain ⟨cl10, Ar10, qa10, S10, Nn10, H10, G10⟩ := Vx10
      have hin10 : ¬ ((2 : Int32) < 0 ∨ cl10.slots.size ≤ ((2 : Int32)).toNatClampNeg) := inb_of S10 ⟨by decide, by decide⟩
      obtain ⟨T10, h10, X10, e10, W10, st10⟩ := stB X9 hx hZ e9 Ar10 (j := (2 : Int32)) hin10 (g := (mkF m 59 #[.val (.ref a1), .val (.int (0 : Int32)), .val (.int p3), .val (.int (0 : Int32))] [(.int ((p3 >>> ((16 : Int32) &&& 31)).toInt8.toInt32)), (.int (2 : Int32)), (.ref ar3)])) rfl rfl (hb hby d5_59)
      have V10 : Arv Z h10 ar3 ka3 .byte (12 : Int32) [(.int ((p3.toInt8.toInt32).toInt8.toInt32)), (.int (((p3 >>> ((8 : Int32) &&& 31)).toInt8.toInt32).toInt8.toInt32)), (.int (((p3 >>> ((16 : Int32) &&& 31)).toInt8.toInt32).toInt8.toInt32)), (.int (own_b3 x0)), (.int (own_b0 x1)), (.int (own_b1 x1)), (.int (own_b2 x1)), (.int (own_b3 x1)), (.int (own_b0 x2)), (.int (own_b1 x2)), (.int (own_b2 x2)), (.int (own_b3 x2))] (.int (0 : Int32)) := Arv.set Ar10 qa10 S10 Nn10 H10 G10 (fits_nar_byte _) W10 2 rfl (Nat.le_of_ble_eq_true rfl)
      have N10 := Fr.snoc X10 N8 g_ar3
      refine Goes.st (U' := T10.setTop (mkF m 60 #[.val (.ref a1), .val (.int (0 : Int32)), .val (.int p3), .val (.int (0 : Int32))] [])) (fun t k => st10 t k) ?_
      refine Goes.st (U' := T10.setTop (mkF m 61 #[.val (.ref a1), .val (.int (0 : Int32)), .val (.int p3), .val (.int (0 : Int32))] [(.ref a1)])) (fun t k => XS.aloadN X10.here hx rfl (hb hby d5_60) rfl rfl k) ?_
      obtain ⟨T11, X11, e11, st11⟩ := getF X10 hx hZ hown (host := "") (Or.inl (hw _ (List.mem_of_getElem? (i := 18) rfl))) Via.refl e10 (((F_width_a1.other W6 (Or.inl ne_a1_ar3)).other W8 (Or.inl ne_a1_ar3)).other W10 (Or.inl ne_a1_ar3)) (g := (mkF m 61 #[.val (.ref a1), .val (.int (0 : Int32)), .val (.int p3), .val (.int (0 : Int32))] [(.ref a1)])) rfl rfl (hb hby d5_61)
      refine Goes.st (U' := T11.setTop (mkF m 64 #[.val (.ref a1), .val (.int (0 : Int32)), .val (.int p3), .val (.int (0 : Int32))] [(.int (4 : Int32))])) (fun t k => st11 t k) ?_
      refine Goes.st (U' := T11.setTop (mkF m 65 #[.val (.ref a1), .val (.int (0 : Int32)), .val (.int p3), .val (.int (0 : Int32))] [(.int (4 : Int32)), (.int (4 : Int32))])) (fun t k => XS.iconst X11.here hx rfl (hb hby d5_64) k) ?_
      refine Goes.st (U' := T11.setTop (mkF m 68 #[.val (.ref a1), .val (.int (0 : Int32)), .val (.int p3), .val (.int (0 : Int32))] [])) (fun t k => XS.icmpNo X11.here hx rfl (hb hby d5_65) rfl (teq (rfl : (4 : Int32) = (4 : Int32))).2 k) ?_
      refine Goes.st (U' := T11.setTop (mkF m 69 #[.val (.ref a1), .val (.int (0 : Int32)), .val (.int p3), .val (.int (0 : Int32))] [(.ref a1)])) (fun t k => XS.aloadN X11.here hx rfl (hb hby d5_68) rfl rfl k) ?_
      obtain ⟨T12, X12, e12, st12⟩ := getF X11 hx hZ hown (host := "") (Or.inl (hw _ (List.mem_of_getElem? (i := 16) rfl))) Via.refl e11 (((F_bytes_a1.other W6 (Or.inl ne_a1_ar3)).other W8 (Or.inl ne_a1_ar3)).other W10 (Or.inl ne_a1_ar3)) (g := (mkF m 69 #[.val (.ref a1), .val (.int (0 : Int32)), .val (.int p3), .val (.int (0 : Int32))] [(.ref a1)])) rfl rfl (hb hby d5_69)
      refine Goes.st (U' := T12.setTop (mkF m 72 #[.val (.ref a1), .val (.int (0 : Int32)), .val (.int p3), .val (.int (0 : Int32))] [(.ref ar3)])) (fun t k => st12 t k) ?_
      refine Goes.st (U' := T12.setTop (mkF m 73 #[.val (.ref a1), .val (.int (0 : Int32)), .val (.int p3), .val (.int (0 : Int32))] [(.int (0 : Int32)), (.ref ar3)])) (fun t k => XS.iloadN X12.here hx rfl (hb hby d5_72) rfl k) ?_
      refine Goes.st (U' := T12.setTop (mkF m 74 #[.val (.ref a1), .val (.int (0 : Int32)), .val (.int p3), .val (.int (0 : Int32))] [(.int (3 : Int32)), (.int (0 : Int32)), (.ref ar3)])) (fun t k => XS.iconst X12.here hx rfl (hb hby d5_73) k) ?_
      refine Goes.st (U' := T12.setTop (mkF m 75 #[.val (.ref a1), .val (.int (0 : Int32)), .val (.int p3), .val (.int (0 : Int32))] [(.int (3 : Int32)), (.ref ar3)])) (fun t k => XS.iadd X12.here hx rfl (hb hby d5_74) rfl k) ?_
      refine Goes.st (U' := T12.setTop (mkF m 76 #[.val (.ref a1), .val (.int (0 : Int32)), .val (.int p3), .val (.int (0 : Int32))] [(.int p3), (.int (3 : Int32)), (.ref ar3)])) (fun t k => XS.iloadN X12.here hx rfl (hb hby d5_75) rfl k) ?_
      refine Goes.st (U' := T12.setTop (mkF m 78 #[.val (.ref a1), .val (.int (0 : Int32)), .val (.int p3), .val (.int (0 : Int32))] [(.int (24 : Int32)), (.int p3), (.int (3 : Int32)), (.ref ar3)])) (fun t k => XS.bipush X12.here hx rfl (hb hby d5_76) k) ?_
      refine Goes.st (U' := T12.setTop (mkF m 79 #[.val (.ref a1), .val (.int (0 : Int32)), .val (.int p3), .val (.int (0 : Int32))] [(.int (p3 >>> ((24 : Int32) &&& 31))), (.int (3 : Int32)), (.ref ar3)])) (fun t k => XS.ishr X12.here hx rfl (hb hby d5_78) rfl k) ?_
      refine Goes.st (U' := T12.setTop (mkF m 80 #[.val (.ref a1), .val (.int (0 : Int32)), .val (.int p3), .val (.int (0 : Int32))] [(.int ((p3 >>> ((24 : Int32) &&& 31)).toInt8.toInt32)), (.int (3 : Int32)), (.ref ar3)])) (fun t k => XS.i2b X12.here hx rfl (hb hby d5_79) rfl k) ?_
      have Vx13 := V10
      obtain ⟨cl13, Ar13, qa13, S13, Nn13, H13, G13⟩ := Vx13
      have hin13 : ¬ ((3 : Int32) < 0 ∨ cl13.slots.size ≤ ((3 : Int32)).toNatClampNeg) := inb_of S13 ⟨by decide, by decide⟩
      obtain ⟨T13, h13, X13, e13, W13, st13⟩ := stB X12 hx hZ e12 Ar13 (j := (3 : Int32)) hin13 (g := (mkF m 80 #[.val (.ref a1), .val (.int (0 : Int32)), .val (.int p3), .val (.int (0 : Int32))] [(.int ((p3 >>> ((24 : Int32) &&& 31)).toInt8.toInt32)), (.int (3 : Int32)), (.ref ar3)])) rfl rfl (hb hby d5_80)
      have V13 : Arv Z h13 ar3 ka3 .byte (12 : Int32) [(.int ((p3.toInt8.toInt32).toInt8.toInt32)), (.int (((p3 >>> ((8 : Int32) &&& 31)).toInt8.toInt32).toInt8.toInt32)), (.int (((p3 >>> ((16 : Int32) &&& 31)).toInt8.toInt32).toInt8.toInt32)), (.int (((p3 >>> ((24 : Int32) &&& 31)).toInt8.toInt32).toInt8.toInt32)), (.int (own_b0 x1)), (.int (own_b1 x1)), (.int (own_b2 x1)), (.int (own_b3 x1)), (.int (own_b0 x2)), (.int (own_b1 x2)), (.int (own_b2 x2)), (.int (own_b3 x2))] (.int (0 : Int32)) := Arv.set Ar13 qa13 S13 Nn13 H13 G13 (fits_nar_byte _) W13 3 rfl (Nat.le_of_ble_eq_true rfl)
      have N13 := Fr.snoc X13 N10 g_ar3
      refine Goes.st (U' := T13.setTop (mkF m 81 #[.val (.ref a1), .val (.int (0 : Int32)), .val (.int p3), .val (.int (0 : Int32))] [])) (fun t k => st13 t k) ?_
      refine Goes.retV X13 hx (BodyLoose.notSynchronized Bd) Bd.returns (hb hby d5_81) (by decide) (by decide) ?_
      show Q_rmS0 Z a1 (0 : Int32) p3 x0 x1 x2 h0 n0 _ T13.heap _
      rw [e13]
      exact ⟨rfl, N13, (Nat.le_trans (Nat.le_trans (Nat.le_trans (Nat.le_trans Z3 (Nat.le_of_eq W6.size.symm)) (Nat.le_of_eq W8.size.symm)) (Nat.le_of_eq W10.size.symm)) (Nat.le_of_eq W13.size.symm)), Or.inr ⟨ar3, ka3, ⟨((((E_a1.wr W6).wr W8).wr W10).wr W13), ((((F_length_a1.other W6 (Or.inl ne_a1_ar3)).other W8 (Or.inl ne_a1_ar3)).other W10 (Or.inl ne_a1_ar3)).other W13 (Or.inl ne_a1_ar3)), ((((F_bytes_a1.other W6 (Or.inl ne_a1_ar3)).other W8 (Or.inl ne_a1_ar3)).other W10 (Or.inl ne_a1_ar3)).other W13 (Or.inl ne_a1_ar3)), ((((F_width_a1.other W6 (Or.inl ne_a1_ar3)).other W8 (Or.inl ne_a1_ar3)).other W10 (Or.inl ne_a1_ar3)).other W13 (Or.inl ne_a1_ar3)), V13, ne_a1_ar3⟩, g_ar3⟩⟩
    · refine Goes.st (U' := T2.setTop (mkF m 19 #[.val (.ref a1), .val (.int (0 : Int32)), .val (.int p3), .unset] [])) (fun t k => XS.ifYes X2.here hx rfl (pc0 := 12) (pc' := 19) rfl (hb hby d5_12) rfl ((if0 _ _).trans (feq hc12).2) (by decide) (by decide) k) ?_
      refine Goes.st (U' := T2.setTop (mkF m 20 #[.val (.ref a1), .val (.int (0 : Int32)), .val (.int p3), .unset] [(.int (0 : Int32))])) (fun t k => XS.iloadN X2.here hx rfl (hb hby d5_19) rfl k) ?_
      refine Goes.st (U' := T2.setTop (mkF m 21 #[.val (.ref a1), .val (.int (0 : Int32)), .val (.int p3), .unset] [(.ref a1), (.int (0 : Int32))])) (fun t k => XS.aloadN X2.here hx rfl (hb hby d5_20) rfl rfl k) ?_
      obtain ⟨T14, X14, e14, st14⟩ := getF X2 hx hZ hown (host := "") (Or.inl (hw _ (List.mem_of_getElem? (i := 18) rfl))) Via.refl e2 F_width_a1 (g := (mkF m 21 #[.val (.ref a1), .val (.int (0 : Int32)), .val (.int p3), .unset] [(.ref a1), (.int (0 : Int32))])) rfl rfl (hb hby d5_21)
      refine Goes.st (U' := T14.setTop (mkF m 24 #[.val (.ref a1), .val (.int (0 : Int32)), .val (.int p3), .unset] [(.int (3 : Int32)), (.int (0 : Int32))])) (fun t k => st14 t k) ?_
      refine Goes.st (U' := T14.setTop (mkF m 25 #[.val (.ref a1), .val (.int (0 : Int32)), .val (.int p3), .unset] [(.int (0 : Int32))])) (fun t k => XS.imul X14.here hx rfl (hb hby d5_24) rfl k) ?_
      refine Goes.st (U' := T14.setTop (mkF m 26 #[.val (.ref a1), .val (.int (0 : Int32)), .val (.int p3), .val (.int (0 : Int32))] [])) (fun t k => XS.istoreN X14.here hx rfl (hb hby d5_25) rfl (l' := #[.val (.ref a1), .val (.int (0 : Int32)), .val (.int p3), .val (.int (0 : Int32))]) rfl k) ?_
      refine Goes.st (U' := T14.setTop (mkF m 27 #[.val (.ref a1), .val (.int (0 : Int32)), .val (.int p3), .val (.int (0 : Int32))] [(.ref a1)])) (fun t k => XS.aloadN X14.here hx rfl (hb hby d5_26) rfl rfl k) ?_
      obtain ⟨T15, X15, e15, st15⟩ := getF X14 hx hZ hown (host := "") (Or.inl (hw _ (List.mem_of_getElem? (i := 16) rfl))) Via.refl e14 F_bytes_a1 (g := (mkF m 27 #[.val (.ref a1), .val (.int (0 : Int32)), .val (.int p3), .val (.int (0 : Int32))] [(.ref a1)])) rfl rfl (hb hby d5_27)
      refine Goes.st (U' := T15.setTop (mkF m 30 #[.val (.ref a1), .val (.int (0 : Int32)), .val (.int p3), .val (.int (0 : Int32))] [(.ref arr)])) (fun t k => st15 t k) ?_
      refine Goes.st (U' := T15.setTop (mkF m 31 #[.val (.ref a1), .val (.int (0 : Int32)), .val (.int p3), .val (.int (0 : Int32))] [(.int (0 : Int32)), (.ref arr)])) (fun t k => XS.iloadN X15.here hx rfl (hb hby d5_30) rfl k) ?_
      refine Goes.st (U' := T15.setTop (mkF m 32 #[.val (.ref a1), .val (.int (0 : Int32)), .val (.int p3), .val (.int (0 : Int32))] [(.int p3), (.int (0 : Int32)), (.ref arr)])) (fun t k => XS.iloadN X15.here hx rfl (hb hby d5_31) rfl k) ?_
      refine Goes.st (U' := T15.setTop (mkF m 33 #[.val (.ref a1), .val (.int (0 : Int32)), .val (.int p3), .val (.int (0 : Int32))] [(.int (p3.toInt8.toInt32)), (.int (0 : Int32)), (.ref arr)])) (fun t k => XS.i2b X15.here hx rfl (hb hby d5_32) rfl k) ?_
      have Vx16 := V_arr
      obtain ⟨cl16, Ar16, qa16, S16, Nn16, H16, G16⟩ := Vx16
      have hin16 : ¬ ((0 : Int32) < 0 ∨ cl16.slots.size ≤ ((0 : Int32)).toNatClampNeg) := inb_of S16 ⟨by decide, by decide⟩
      obtain ⟨T16, h16, X16, e16, W16, st16⟩ := stB X15 hx hZ e15 Ar16 (j := (0 : Int32)) hin16 (g := (mkF m 33 #[.val (.ref a1), .val (.int (0 : Int32)), .val (.int p3), .val (.int (0 : Int32))] [(.int (p3.toInt8.toInt32)), (.int (0 : Int32)), (.ref arr)])) rfl rfl (hb hby d5_33)
      have V16 : Arv Z h16 arr k .byte (9 : Int32) [(.int ((p3.toInt8.toInt32).toInt8.toInt32)), (.int (own_b1 x0)), (.int (own_b2 x0)), (.int (own_b0 x1)), (.int (own_b1 x1)), (.int (own_b2 x1)), (.int (own_b0 x2)), (.int (own_b1 x2)), (.int (own_b2 x2))] (.int (0 : Int32)) := Arv.set Ar16 qa16 S16 Nn16 H16 G16 (fits_nar_byte _) W16 0 rfl (Nat.le_of_ble_eq_true rfl)
      have N16 := Fr.snoc X16 N2 g_arr
      refine Goes.st (U' := T16.setTop (mkF m 34 #[.val (.ref a1), .val (.int (0 : Int32)), .val (.int p3), .val (.int (0 : Int32))] [])) (fun t k => st16 t k) ?_
      refine Goes.st (U' := T16.setTop (mkF m 35 #[.val (.ref a1), .val (.int (0 : Int32)), .val (.int p3), .val (.int (0 : Int32))] [(.ref a1)])) (fun t k => XS.aloadN X16.here hx rfl (hb hby d5_34) rfl rfl k) ?_
      obtain ⟨T17, X17, e17, st17⟩ := getF X16 hx hZ hown (host := "") (Or.inl (hw _ (List.mem_of_getElem? (i := 16) rfl))) Via.refl e16 (F_bytes_a1.other W16 (Or.inl ne_a1_arr)) (g := (mkF m 35 #[.val (.ref a1), .val (.int (0 : Int32)), .val (.int p3), .val (.int (0 : Int32))] [(.ref a1)])) rfl rfl (hb hby d5_35)
      refine Goes.st (U' := T17.setTop (mkF m 38 #[.val (.ref a1), .val (.int (0 : Int32)), .val (.int p3), .val (.int (0 : Int32))] [(.ref arr)])) (fun t k => st17 t k) ?_
      refine Goes.st (U' := T17.setTop (mkF m 39 #[.val (.ref a1), .val (.int (0 : Int32)), .val (.int p3), .val (.int (0 : Int32))] [(.int (0 : Int32)), (.ref arr)])) (fun t k => XS.iloadN X17.here hx rfl (hb hby d5_38) rfl k) ?_
      refine Goes.st (U' := T17.setTop (mkF m 40 #[.val (.ref a1), .val (.int (0 : Int32)), .val (.int p3), .val (.int (0 : Int32))] [(.int (1 : Int32)), (.int (0 : Int32)), (.ref arr)])) (fun t k => XS.iconst X17.here hx rfl (hb hby d5_39) k) ?_
      refine Goes.st (U' := T17.setTop (mkF m 41 #[.val (.ref a1), .val (.int (0 : Int32)), .val (.int p3), .val (.int (0 : Int32))] [(.int (1 : Int32)), (.ref arr)])) (fun t k => XS.iadd X17.here hx rfl (hb hby d5_40) rfl k) ?_
      refine Goes.st (U' := T17.setTop (mkF m 42 #[.val (.ref a1), .val (.int (0 : Int32)), .val (.int p3), .val (.int (0 : Int32))] [(.int p3), (.int (1 : Int32)), (.ref arr)])) (fun t k => XS.iloadN X17.here hx rfl (hb hby d5_41) rfl k) ?_
      refine Goes.st (U' := T17.setTop (mkF m 44 #[.val (.ref a1), .val (.int (0 : Int32)), .val (.int p3), .val (.int (0 : Int32))] [(.int (8 : Int32)), (.int p3), (.int (1 : Int32)), (.ref arr)])) (fun t k => XS.bipush X17.here hx rfl (hb hby d5_42) k) ?_
      refine Goes.st (U' := T17.setTop (mkF m 45 #[.val (.ref a1), .val (.int (0 : Int32)), .val (.int p3), .val (.int (0 : Int32))] [(.int (p3 >>> ((8 : Int32) &&& 31))), (.int (1 : Int32)), (.ref arr)])) (fun t k => XS.ishr X17.here hx rfl (hb hby d5_44) rfl k) ?_
      refine Goes.st (U' := T17.setTop (mkF m 46 #[.val (.ref a1), .val (.int (0 : Int32)), .val (.int p3), .val (.int (0 : Int32))] [(.int ((p3 >>> ((8 : Int32) &&& 31)).toInt8.toInt32)), (.int (1 : Int32)), (.ref arr)])) (fun t k => XS.i2b X17.here hx rfl (hb hby d5_45) rfl k) ?_
      have Vx18 := V16
      obtain ⟨cl18, Ar18, qa18, S18, Nn18, H18, G18⟩ := Vx18
      have hin18 : ¬ ((1 : Int32) < 0 ∨ cl18.slots.size ≤ ((1 : Int32)).toNatClampNeg) := inb_of S18 ⟨by decide, by decide⟩
      obtain ⟨T18, h18, X18, e18, W18, st18⟩ := stB X17 hx hZ e17 Ar18 (j := (1 : Int32)) hin18 (g := (mkF m 46 #[.val (.ref a1), .val (.int (0 : Int32)), .val (.int p3), .val (.int (0 : Int32))] [(.int ((p3 >>> ((8 : Int32) &&& 31)).toInt8.toInt32)), (.int (1 : Int32)), (.ref arr)])) rfl rfl (hb hby d5_46)
      have V18 : Arv Z h18 arr k .byte (9 : Int32) [(.int ((p3.toInt8.toInt32).toInt8.toInt32)), (.int (((p3 >>> ((8 : Int32) &&& 31)).toInt8.toInt32).toInt8.toInt32)), (.int (own_b2 x0)), (.int (own_b0 x1)), (.int (own_b1 x1)), (.int (own_b2 x1)), (.int (own_b0 x2)), (.int (own_b1 x2)), (.int (own_b2 x2))] (.int (0 : Int32)) := Arv.set Ar18 qa18 S18 Nn18 H18 G18 (fits_nar_byte _) W18 1 rfl (Nat.le_of_ble_eq_true rfl)
      have N18 := Fr.snoc X18 N16 g_arr
      refine Goes.st (U' := T18.setTop (mkF m 47 #[.val (.ref a1), .val (.int (0 : Int32)), .val (.int p3), .val (.int (0 : Int32))] [])) (fun t k => st18 t k) ?_
      refine Goes.st (U' := T18.setTop (mkF m 48 #[.val (.ref a1), .val (.int (0 : Int32)), .val (.int p3), .val (.int (0 : Int32))] [(.ref a1)])) (fun t k => XS.aloadN X18.here hx rfl (hb hby d5_47) rfl rfl k) ?_
      obtain ⟨T19, X19, e19, st19⟩ := getF X18 hx hZ hown (host := "") (Or.inl (hw _ (List.mem_of_getElem? (i := 16) rfl))) Via.refl e18 ((F_bytes_a1.other W16 (Or.inl ne_a1_arr)).other W18 (Or.inl ne_a1_arr)) (g := (mkF m 48 #[.val (.ref a1), .val (.int (0 : Int32)), .val (.int p3), .val (.int (0 : Int32))] [(.ref a1)])) rfl rfl (hb hby d5_48)
      refine Goes.st (U' := T19.setTop (mkF m 51 #[.val (.ref a1), .val (.int (0 : Int32)), .val (.int p3), .val (.int (0 : Int32))] [(.ref arr)])) (fun t k => st19 t k) ?_
      refine Goes.st (U' := T19.setTop (mkF m 52 #[.val (.ref a1), .val (.int (0 : Int32)), .val (.int p3), .val (.int (0 : Int32))] [(.int (0 : Int32)), (.ref arr)])) (fun t k => XS.iloadN X19.here hx rfl (hb hby d5_51) rfl k) ?_
      refine Goes.st (U' := T19.setTop (mkF m 53 #[.val (.ref a1), .val (.int (0 : Int32)), .val (.int p3), .val (.int (0 : Int32))] [(.int (2 : Int32)), (.int (0 : Int32)), (.ref arr)])) (fun t k => XS.iconst X19.here hx rfl (hb hby d5_52) k) ?_
      refine Goes.st (U' := T19.setTop (mkF m 54 #[.val (.ref a1), .val (.int (0 : Int32)), .val (.int p3), .val (.int (0 : Int32))] [(.int (2 : Int32)), (.ref arr)])) (fun t k => XS.iadd X19.here hx rfl (hb hby d5_53) rfl k) ?_
      refine Goes.st (U' := T19.setTop (mkF m 55 #[.val (.ref a1), .val (.int (0 : Int32)), .val (.int p3), .val (.int (0 : Int32))] [(.int p3), (.int (2 : Int32)), (.ref arr)])) (fun t k => XS.iloadN X19.here hx rfl (hb hby d5_54) rfl k) ?_
      refine Goes.st (U' := T19.setTop (mkF m 57 #[.val (.ref a1), .val (.int (0 : Int32)), .val (.int p3), .val (.int (0 : Int32))] [(.int (16 : Int32)), (.int p3), (.int (2 : Int32)), (.ref arr)])) (fun t k => XS.bipush X19.here hx rfl (hb hby d5_55) k) ?_
      refine Goes.st (U' := T19.setTop (mkF m 58 #[.val (.ref a1), .val (.int (0 : Int32)), .val (.int p3), .val (.int (0 : Int32))] [(.int (p3 >>> ((16 : Int32) &&& 31))), (.int (2 : Int32)), (.ref arr)])) (fun t k => XS.ishr X19.here hx rfl (hb hby d5_57) rfl k) ?_
      refine Goes.st (U' := T19.setTop (mkF m 59 #[.val (.ref a1), .val (.int (0 : Int32)), .val (.int p3), .val (.int (0 : Int32))] [(.int ((p3 >>> ((16 : Int32) &&& 31)).toInt8.toInt32)), (.int (2 : Int32)), (.ref arr)])) (fun t k => XS.i2b X19.here hx rfl (hb hby d5_58) rfl k) ?_
      have Vx20 := V18
      obtain ⟨cl20, Ar20, qa20, S20, Nn20, H20, G20⟩ := Vx20
      have hin20 : ¬ ((2 : Int32) < 0 ∨ cl20.slots.size ≤ ((2 : Int32)).toNatClampNeg) := inb_of S20 ⟨by decide, by decide⟩
      obtain ⟨T20, h20, X20, e20, W20, st20⟩ := stB X19 hx hZ e19 Ar20 (j := (2 : Int32)) hin20 (g := (mkF m 59 #[.val (.ref a1), .val (.int (0 : Int32)), .val (.int p3), .val (.int (0 : Int32))] [(.int ((p3 >>> ((16 : Int32) &&& 31)).toInt8.toInt32)), (.int (2 : Int32)), (.ref arr)])) rfl rfl (hb hby d5_59)
      have V20 : Arv Z h20 arr k .byte (9 : Int32) [(.int ((p3.toInt8.toInt32).toInt8.toInt32)), (.int (((p3 >>> ((8 : Int32) &&& 31)).toInt8.toInt32).toInt8.toInt32)), (.int (((p3 >>> ((16 : Int32) &&& 31)).toInt8.toInt32).toInt8.toInt32)), (.int (own_b0 x1)), (.int (own_b1 x1)), (.int (own_b2 x1)), (.int (own_b0 x2)), (.int (own_b1 x2)), (.int (own_b2 x2))] (.int (0 : Int32)) := Arv.set Ar20 qa20 S20 Nn20 H20 G20 (fits_nar_byte _) W20 2 rfl (Nat.le_of_ble_eq_true rfl)
      have N20 := Fr.snoc X20 N18 g_arr
      refine Goes.st (U' := T20.setTop (mkF m 60 #[.val (.ref a1), .val (.int (0 : Int32)), .val (.int p3), .val (.int (0 : Int32))] [])) (fun t k => st20 t k) ?_
      refine Goes.st (U' := T20.setTop (mkF m 61 #[.val (.ref a1), .val (.int (0 : Int32)), .val (.int p3), .val (.int (0 : Int32))] [(.ref a1)])) (fun t k => XS.aloadN X20.here hx rfl (hb hby d5_60) rfl rfl k) ?_
      obtain ⟨T21, X21, e21, st21⟩ := getF X20 hx hZ hown (host := "") (Or.inl (hw _ (List.mem_of_getElem? (i := 18) rfl))) Via.refl e20 (((F_width_a1.other W16 (Or.inl ne_a1_arr)).other W18 (Or.inl ne_a1_arr)).other W20 (Or.inl ne_a1_arr)) (g := (mkF m 61 #[.val (.ref a1), .val (.int (0 : Int32)), .val (.int p3), .val (.int (0 : Int32))] [(.ref a1)])) rfl rfl (hb hby d5_61)
      refine Goes.st (U' := T21.setTop (mkF m 64 #[.val (.ref a1), .val (.int (0 : Int32)), .val (.int p3), .val (.int (0 : Int32))] [(.int (3 : Int32))])) (fun t k => st21 t k) ?_
      refine Goes.st (U' := T21.setTop (mkF m 65 #[.val (.ref a1), .val (.int (0 : Int32)), .val (.int p3), .val (.int (0 : Int32))] [(.int (4 : Int32)), (.int (3 : Int32))])) (fun t k => XS.iconst X21.here hx rfl (hb hby d5_64) k) ?_
      refine Goes.st (U' := T21.setTop (mkF m 81 #[.val (.ref a1), .val (.int (0 : Int32)), .val (.int p3), .val (.int (0 : Int32))] [])) (fun t k => XS.icmpYes X21.here hx rfl (pc0 := 65) (pc' := 81) rfl (hb hby d5_65) rfl (feq (by decide : ¬ ((3 : Int32) = (4 : Int32)))).2 (by decide) (by decide) k) ?_
      refine Goes.retV X21 hx (BodyLoose.notSynchronized Bd) Bd.returns (hb hby d5_81) (by decide) (by decide) ?_
      show Q_rmS0 Z a1 (0 : Int32) p3 x0 x1 x2 h0 n0 _ T21.heap _
      rw [e21]
      exact ⟨rfl, N20, (Nat.le_trans (Nat.le_trans (Nat.le_trans Z0 (Nat.le_of_eq W16.size.symm)) (Nat.le_of_eq W18.size.symm)) (Nat.le_of_eq W20.size.symm)), Or.inl ⟨arr, k, ⟨(((E_a1.wr W16).wr W18).wr W20), (((F_length_a1.other W16 (Or.inl ne_a1_arr)).other W18 (Or.inl ne_a1_arr)).other W20 (Or.inl ne_a1_arr)), (((F_bytes_a1.other W16 (Or.inl ne_a1_arr)).other W18 (Or.inl ne_a1_arr)).other W20 (Or.inl ne_a1_arr)), (((F_width_a1.other W16 (Or.inl ne_a1_arr)).other W18 (Or.inl ne_a1_arr)).other W20 (Or.inl ne_a1_arr)), V20, ne_a1_arr, (own_fits1 _ hc12), hf1_a1, hf2_a1⟩, g_arr⟩⟩
  · have Pc := P
    obtain ⟨E_a1, F_length_a1, F_bytes_a1, F_width_a1, V_arr, ne_a1_arr⟩ := P
    refine Goes.st (U' := s₁.setTop (mkF m 1 #[.val (.ref a1), .val (.int (0 : Int32)), .val (.int p3), .unset] [(.ref a1)])) (fun t k => XS.aloadN X0.here hx rfl (hb hby d5_0) rfl rfl k) ?_
    obtain ⟨T22, X22, e22, st22⟩ := getF X0 hx hZ hown (host := "") (Or.inl (hw _ (List.mem_of_getElem? (i := 18) rfl))) Via.refl e0 F_width_a1 (g := (mkF m 1 #[.val (.ref a1), .val (.int (0 : Int32)), .val (.int p3), .unset] [(.ref a1)])) rfl rfl (hb hby d5_1)
    refine Goes.st (U' := T22.setTop (mkF m 4 #[.val (.ref a1), .val (.int (0 : Int32)), .val (.int p3), .unset] [(.int (4 : Int32))])) (fun t k => st22 t k) ?_
    refine Goes.st (U' := T22.setTop (mkF m 5 #[.val (.ref a1), .val (.int (0 : Int32)), .val (.int p3), .unset] [(.int (3 : Int32)), (.int (4 : Int32))])) (fun t k => XS.iconst X22.here hx rfl (hb hby d5_4) k) ?_
    refine Goes.st (U' := T22.setTop (mkF m 19 #[.val (.ref a1), .val (.int (0 : Int32)), .val (.int p3), .unset] [])) (fun t k => XS.icmpYes X22.here hx rfl (pc0 := 5) (pc' := 19) rfl (hb hby d5_5) rfl (feq (by decide : ¬ ((4 : Int32) = (3 : Int32)))).2 (by decide) (by decide) k) ?_
    refine Goes.st (U' := T22.setTop (mkF m 20 #[.val (.ref a1), .val (.int (0 : Int32)), .val (.int p3), .unset] [(.int (0 : Int32))])) (fun t k => XS.iloadN X22.here hx rfl (hb hby d5_19) rfl k) ?_
    refine Goes.st (U' := T22.setTop (mkF m 21 #[.val (.ref a1), .val (.int (0 : Int32)), .val (.int p3), .unset] [(.ref a1), (.int (0 : Int32))])) (fun t k => XS.aloadN X22.here hx rfl (hb hby d5_20) rfl rfl k) ?_
    obtain ⟨T23, X23, e23, st23⟩ := getF X22 hx hZ hown (host := "") (Or.inl (hw _ (List.mem_of_getElem? (i := 18) rfl))) Via.refl e22 F_width_a1 (g := (mkF m 21 #[.val (.ref a1), .val (.int (0 : Int32)), .val (.int p3), .unset] [(.ref a1), (.int (0 : Int32))])) rfl rfl (hb hby d5_21)
    refine Goes.st (U' := T23.setTop (mkF m 24 #[.val (.ref a1), .val (.int (0 : Int32)), .val (.int p3), .unset] [(.int (4 : Int32)), (.int (0 : Int32))])) (fun t k => st23 t k) ?_
    refine Goes.st (U' := T23.setTop (mkF m 25 #[.val (.ref a1), .val (.int (0 : Int32)), .val (.int p3), .unset] [(.int (0 : Int32))])) (fun t k => XS.imul X23.here hx rfl (hb hby d5_24) rfl k) ?_
    refine Goes.st (U' := T23.setTop (mkF m 26 #[.val (.ref a1), .val (.int (0 : Int32)), .val (.int p3), .val (.int (0 : Int32))] [])) (fun t k => XS.istoreN X23.here hx rfl (hb hby d5_25) rfl (l' := #[.val (.ref a1), .val (.int (0 : Int32)), .val (.int p3), .val (.int (0 : Int32))]) rfl k) ?_
    refine Goes.st (U' := T23.setTop (mkF m 27 #[.val (.ref a1), .val (.int (0 : Int32)), .val (.int p3), .val (.int (0 : Int32))] [(.ref a1)])) (fun t k => XS.aloadN X23.here hx rfl (hb hby d5_26) rfl rfl k) ?_
    obtain ⟨T24, X24, e24, st24⟩ := getF X23 hx hZ hown (host := "") (Or.inl (hw _ (List.mem_of_getElem? (i := 16) rfl))) Via.refl e23 F_bytes_a1 (g := (mkF m 27 #[.val (.ref a1), .val (.int (0 : Int32)), .val (.int p3), .val (.int (0 : Int32))] [(.ref a1)])) rfl rfl (hb hby d5_27)
    refine Goes.st (U' := T24.setTop (mkF m 30 #[.val (.ref a1), .val (.int (0 : Int32)), .val (.int p3), .val (.int (0 : Int32))] [(.ref arr)])) (fun t k => st24 t k) ?_
    refine Goes.st (U' := T24.setTop (mkF m 31 #[.val (.ref a1), .val (.int (0 : Int32)), .val (.int p3), .val (.int (0 : Int32))] [(.int (0 : Int32)), (.ref arr)])) (fun t k => XS.iloadN X24.here hx rfl (hb hby d5_30) rfl k) ?_
    refine Goes.st (U' := T24.setTop (mkF m 32 #[.val (.ref a1), .val (.int (0 : Int32)), .val (.int p3), .val (.int (0 : Int32))] [(.int p3), (.int (0 : Int32)), (.ref arr)])) (fun t k => XS.iloadN X24.here hx rfl (hb hby d5_31) rfl k) ?_
    refine Goes.st (U' := T24.setTop (mkF m 33 #[.val (.ref a1), .val (.int (0 : Int32)), .val (.int p3), .val (.int (0 : Int32))] [(.int (p3.toInt8.toInt32)), (.int (0 : Int32)), (.ref arr)])) (fun t k => XS.i2b X24.here hx rfl (hb hby d5_32) rfl k) ?_
    have Vx25 := V_arr
    obtain ⟨cl25, Ar25, qa25, S25, Nn25, H25, G25⟩ := Vx25
    have hin25 : ¬ ((0 : Int32) < 0 ∨ cl25.slots.size ≤ ((0 : Int32)).toNatClampNeg) := inb_of S25 ⟨by decide, by decide⟩
    obtain ⟨T25, h25, X25, e25, W25, st25⟩ := stB X24 hx hZ e24 Ar25 (j := (0 : Int32)) hin25 (g := (mkF m 33 #[.val (.ref a1), .val (.int (0 : Int32)), .val (.int p3), .val (.int (0 : Int32))] [(.int (p3.toInt8.toInt32)), (.int (0 : Int32)), (.ref arr)])) rfl rfl (hb hby d5_33)
    have V25 : Arv Z h25 arr k .byte (12 : Int32) [(.int ((p3.toInt8.toInt32).toInt8.toInt32)), (.int (own_b1 x0)), (.int (own_b2 x0)), (.int (own_b3 x0)), (.int (own_b0 x1)), (.int (own_b1 x1)), (.int (own_b2 x1)), (.int (own_b3 x1)), (.int (own_b0 x2)), (.int (own_b1 x2)), (.int (own_b2 x2)), (.int (own_b3 x2))] (.int (0 : Int32)) := Arv.set Ar25 qa25 S25 Nn25 H25 G25 (fits_nar_byte _) W25 0 rfl (Nat.le_of_ble_eq_true rfl)
    have N25 := Fr.snoc X25 N0 g_arr
    refine Goes.st (U' := T25.setTop (mkF m 34 #[.val (.ref a1), .val (.int (0 : Int32)), .val (.int p3), .val (.int (0 : Int32))] [])) (fun t k => st25 t k) ?_
    refine Goes.st (U' := T25.setTop (mkF m 35 #[.val (.ref a1), .val (.int (0 : Int32)), .val (.int p3), .val (.int (0 : Int32))] [(.ref a1)])) (fun t k => XS.aloadN X25.here hx rfl (hb hby d5_34) rfl rfl k) ?_
    obtain ⟨T26, X26, e26, st26⟩ := getF X25 hx hZ hown (host := "") (Or.inl (hw _ (List.mem_of_getElem? (i := 16) rfl))) Via.refl e25 (F_bytes_a1.other W25 (Or.inl ne_a1_arr)) (g := (mkF m 35 #[.val (.ref a1), .val (.int (0 : Int32)), .val (.int p3), .val (.int (0 : Int32))] [(.ref a1)])) rfl rfl (hb hby d5_35)
    refine Goes.st (U' := T26.setTop (mkF m 38 #[.val (.ref a1), .val (.int (0 : Int32)), .val (.int p3), .val (.int (0 : Int32))] [(.ref arr)])) (fun t k => st26 t k) ?_
    refine Goes.st (U' := T26.setTop (mkF m 39 #[.val (.ref a1), .val (.int (0 : Int32)), .val (.int p3), .val (.int (0 : Int32))] [(.int (0 : Int32)), (.ref arr)])) (fun t k => XS.iloadN X26.here hx rfl (hb hby d5_38) rfl k) ?_
    refine Goes.st (U' := T26.setTop (mkF m 40 #[.val (.ref a1), .val (.int (0 : Int32)), .val (.int p3), .val (.int (0 : Int32))] [(.int (1 : Int32)), (.int (0 : Int32)), (.ref arr)])) (fun t k => XS.iconst X26.here hx rfl (hb hby d5_39) k) ?_
    refine Goes.st (U' := T26.setTop (mkF m 41 #[.val (.ref a1), .val (.int (0 : Int32)), .val (.int p3), .val (.int (0 : Int32))] [(.int (1 : Int32)), (.ref arr)])) (fun t k => XS.iadd X26.here hx rfl (hb hby d5_40) rfl k) ?_
    refine Goes.st (U' := T26.setTop (mkF m 42 #[.val (.ref a1), .val (.int (0 : Int32)), .val (.int p3), .val (.int (0 : Int32))] [(.int p3), (.int (1 : Int32)), (.ref arr)])) (fun t k => XS.iloadN X26.here hx rfl (hb hby d5_41) rfl k) ?_
    refine Goes.st (U' := T26.setTop (mkF m 44 #[.val (.ref a1), .val (.int (0 : Int32)), .val (.int p3), .val (.int (0 : Int32))] [(.int (8 : Int32)), (.int p3), (.int (1 : Int32)), (.ref arr)])) (fun t k => XS.bipush X26.here hx rfl (hb hby d5_42) k) ?_
    refine Goes.st (U' := T26.setTop (mkF m 45 #[.val (.ref a1), .val (.int (0 : Int32)), .val (.int p3), .val (.int (0 : Int32))] [(.int (p3 >>> ((8 : Int32) &&& 31))), (.int (1 : Int32)), (.ref arr)])) (fun t k => XS.ishr X26.here hx rfl (hb hby d5_44) rfl k) ?_
    refine Goes.st (U' := T26.setTop (mkF m 46 #[.val (.ref a1), .val (.int (0 : Int32)), .val (.int p3), .val (.int (0 : Int32))] [(.int ((p3 >>> ((8 : Int32) &&& 31)).toInt8.toInt32)), (.int (1 : Int32)), (.ref arr)])) (fun t k => XS.i2b X26.here hx rfl (hb hby d5_45) rfl k) ?_
    have Vx27 := V25
    obtain ⟨cl27, Ar27, qa27, S27, Nn27, H27, G27⟩ := Vx27
    have hin27 : ¬ ((1 : Int32) < 0 ∨ cl27.slots.size ≤ ((1 : Int32)).toNatClampNeg) := inb_of S27 ⟨by decide, by decide⟩
    obtain ⟨T27, h27, X27, e27, W27, st27⟩ := stB X26 hx hZ e26 Ar27 (j := (1 : Int32)) hin27 (g := (mkF m 46 #[.val (.ref a1), .val (.int (0 : Int32)), .val (.int p3), .val (.int (0 : Int32))] [(.int ((p3 >>> ((8 : Int32) &&& 31)).toInt8.toInt32)), (.int (1 : Int32)), (.ref arr)])) rfl rfl (hb hby d5_46)
    have V27 : Arv Z h27 arr k .byte (12 : Int32) [(.int ((p3.toInt8.toInt32).toInt8.toInt32)), (.int (((p3 >>> ((8 : Int32) &&& 31)).toInt8.toInt32).toInt8.toInt32)), (.int (own_b2 x0)), (.int (own_b3 x0)), (.int (own_b0 x1)), (.int (own_b1 x1)), (.int (own_b2 x1)), (.int (own_b3 x1)), (.int (own_b0 x2)), (.int (own_b1 x2)), (.int (own_b2 x2)), (.int (own_b3 x2))] (.int (0 : Int32)) := Arv.set Ar27 qa27 S27 Nn27 H27 G27 (fits_nar_byte _) W27 1 rfl (Nat.le_of_ble_eq_true rfl)
    have N27 := Fr.snoc X27 N25 g_arr
    refine Goes.st (U' := T27.setTop (mkF m 47 #[.val (.ref a1), .val (.int (0 : Int32)), .val (.int p3), .val (.int (0 : Int32))] [])) (fun t k => st27 t k) ?_
    refine Goes.st (U' := T27.setTop (mkF m 48 #[.val (.ref a1), .val (.int (0 : Int32)), .val (.int p3), .val (.int (0 : Int32))] [(.ref a1)])) (fun t k => XS.aloadN X27.here hx rfl (hb hby d5_47) rfl rfl k) ?_
    obtain ⟨T28, X28, e28, st28⟩ := getF X27 hx hZ hown (host := "") (Or.inl (hw _ (List.mem_of_getElem? (i := 16) rfl))) Via.refl e27 ((F_bytes_a1.other W25 (Or.inl ne_a1_arr)).other W27 (Or.inl ne_a1_arr)) (g := (mkF m 48 #[.val (.ref a1), .val (.int (0 : Int32)), .val (.int p3), .val (.int (0 : Int32))] [(.ref a1)])) rfl rfl (hb hby d5_48)
    refine Goes.st (U' := T28.setTop (mkF m 51 #[.val (.ref a1), .val (.int (0 : Int32)), .val (.int p3), .val (.int (0 : Int32))] [(.ref arr)])) (fun t k => st28 t k) ?_
    refine Goes.st (U' := T28.setTop (mkF m 52 #[.val (.ref a1), .val (.int (0 : Int32)), .val (.int p3), .val (.int (0 : Int32))] [(.int (0 : Int32)), (.ref arr)])) (fun t k => XS.iloadN X28.here hx rfl (hb hby d5_51) rfl k) ?_
    refine Goes.st (U' := T28.setTop (mkF m 53 #[.val (.ref a1), .val (.int (0 : Int32)), .val (.int p3), .val (.int (0 : Int32))] [(.int (2 : Int32)), (.int (0 : Int32)), (.ref arr)])) (fun t k => XS.iconst X28.here hx rfl (hb hby d5_52) k) ?_
    refine Goes.st (U' := T28.setTop (mkF m 54 #[.val (.ref a1), .val (.int (0 : Int32)), .val (.int p3), .val (.int (0 : Int32))] [(.int (2 : Int32)), (.ref arr)])) (fun t k => XS.iadd X28.here hx rfl (hb hby d5_53) rfl k) ?_
    refine Goes.st (U' := T28.setTop (mkF m 55 #[.val (.ref a1), .val (.int (0 : Int32)), .val (.int p3), .val (.int (0 : Int32))] [(.int p3), (.int (2 : Int32)), (.ref arr)])) (fun t k => XS.iloadN X28.here hx rfl (hb hby d5_54) rfl k) ?_
    refine Goes.st (U' := T28.setTop (mkF m 57 #[.val (.ref a1), .val (.int (0 : Int32)), .val (.int p3), .val (.int (0 : Int32))] [(.int (16 : Int32)), (.int p3), (.int (2 : Int32)), (.ref arr)])) (fun t k => XS.bipush X28.here hx rfl (hb hby d5_55) k) ?_
    refine Goes.st (U' := T28.setTop (mkF m 58 #[.val (.ref a1), .val (.int (0 : Int32)), .val (.int p3), .val (.int (0 : Int32))] [(.int (p3 >>> ((16 : Int32) &&& 31))), (.int (2 : Int32)), (.ref arr)])) (fun t k => XS.ishr X28.here hx rfl (hb hby d5_57) rfl k) ?_
    refine Goes.st (U' := T28.setTop (mkF m 59 #[.val (.ref a1), .val (.int (0 : Int32)), .val (.int p3), .val (.int (0 : Int32))] [(.int ((p3 >>> ((16 : Int32) &&& 31)).toInt8.toInt32)), (.int (2 : Int32)), (.ref arr)])) (fun t k => XS.i2b X28.here hx rfl (hb hby d5_58) rfl k) ?_
    have Vx29 := V27
    obtain ⟨cl29, Ar29, qa29, S29, Nn29, H29, G29⟩ := Vx29
    have hin29 : ¬ ((2 : Int32) < 0 ∨ cl29.slots.size ≤ ((2 : Int32)).toNatClampNeg) := inb_of S29 ⟨by decide, by decide⟩
    obtain ⟨T29, h29, X29, e29, W29, st29⟩ := stB X28 hx hZ e28 Ar29 (j := (2 : Int32)) hin29 (g := (mkF m 59 #[.val (.ref a1), .val (.int (0 : Int32)), .val (.int p3), .val (.int (0 : Int32))] [(.int ((p3 >>> ((16 : Int32) &&& 31)).toInt8.toInt32)), (.int (2 : Int32)), (.ref arr)])) rfl rfl (hb hby d5_59)
    have V29 : Arv Z h29 arr k .byte (12 : Int32) [(.int ((p3.toInt8.toInt32).toInt8.toInt32)), (.int (((p3 >>> ((8 : Int32) &&& 31)).toInt8.toInt32).toInt8.toInt32)), (.int (((p3 >>> ((16 : Int32) &&& 31)).toInt8.toInt32).toInt8.toInt32)), (.int (own_b3 x0)), (.int (own_b0 x1)), (.int (own_b1 x1)), (.int (own_b2 x1)), (.int (own_b3 x1)), (.int (own_b0 x2)), (.int (own_b1 x2)), (.int (own_b2 x2)), (.int (own_b3 x2))] (.int (0 : Int32)) := Arv.set Ar29 qa29 S29 Nn29 H29 G29 (fits_nar_byte _) W29 2 rfl (Nat.le_of_ble_eq_true rfl)
    have N29 := Fr.snoc X29 N27 g_arr
    refine Goes.st (U' := T29.setTop (mkF m 60 #[.val (.ref a1), .val (.int (0 : Int32)), .val (.int p3), .val (.int (0 : Int32))] [])) (fun t k => st29 t k) ?_
    refine Goes.st (U' := T29.setTop (mkF m 61 #[.val (.ref a1), .val (.int (0 : Int32)), .val (.int p3), .val (.int (0 : Int32))] [(.ref a1)])) (fun t k => XS.aloadN X29.here hx rfl (hb hby d5_60) rfl rfl k) ?_
    obtain ⟨T30, X30, e30, st30⟩ := getF X29 hx hZ hown (host := "") (Or.inl (hw _ (List.mem_of_getElem? (i := 18) rfl))) Via.refl e29 (((F_width_a1.other W25 (Or.inl ne_a1_arr)).other W27 (Or.inl ne_a1_arr)).other W29 (Or.inl ne_a1_arr)) (g := (mkF m 61 #[.val (.ref a1), .val (.int (0 : Int32)), .val (.int p3), .val (.int (0 : Int32))] [(.ref a1)])) rfl rfl (hb hby d5_61)
    refine Goes.st (U' := T30.setTop (mkF m 64 #[.val (.ref a1), .val (.int (0 : Int32)), .val (.int p3), .val (.int (0 : Int32))] [(.int (4 : Int32))])) (fun t k => st30 t k) ?_
    refine Goes.st (U' := T30.setTop (mkF m 65 #[.val (.ref a1), .val (.int (0 : Int32)), .val (.int p3), .val (.int (0 : Int32))] [(.int (4 : Int32)), (.int (4 : Int32))])) (fun t k => XS.iconst X30.here hx rfl (hb hby d5_64) k) ?_
    refine Goes.st (U' := T30.setTop (mkF m 68 #[.val (.ref a1), .val (.int (0 : Int32)), .val (.int p3), .val (.int (0 : Int32))] [])) (fun t k => XS.icmpNo X30.here hx rfl (hb hby d5_65) rfl (teq (rfl : (4 : Int32) = (4 : Int32))).2 k) ?_
    refine Goes.st (U' := T30.setTop (mkF m 69 #[.val (.ref a1), .val (.int (0 : Int32)), .val (.int p3), .val (.int (0 : Int32))] [(.ref a1)])) (fun t k => XS.aloadN X30.here hx rfl (hb hby d5_68) rfl rfl k) ?_
    obtain ⟨T31, X31, e31, st31⟩ := getF X30 hx hZ hown (host := "") (Or.inl (hw _ (List.mem_of_getElem? (i := 16) rfl))) Via.refl e30 (((F_bytes_a1.other W25 (Or.inl ne_a1_arr)).other W27 (Or.inl ne_a1_arr)).other W29 (Or.inl ne_a1_arr)) (g := (mkF m 69 #[.val (.ref a1), .val (.int (0 : Int32)), .val (.int p3), .val (.int (0 : Int32))] [(.ref a1)])) rfl rfl (hb hby d5_69)
    refine Goes.st (U' := T31.setTop (mkF m 72 #[.val (.ref a1), .val (.int (0 : Int32)), .val (.int p3), .val (.int (0 : Int32))] [(.ref arr)])) (fun t k => st31 t k) ?_
    refine Goes.st (U' := T31.setTop (mkF m 73 #[.val (.ref a1), .val (.int (0 : Int32)), .val (.int p3), .val (.int (0 : Int32))] [(.int (0 : Int32)), (.ref arr)])) (fun t k => XS.iloadN X31.here hx rfl (hb hby d5_72) rfl k) ?_
    refine Goes.st (U' := T31.setTop (mkF m 74 #[.val (.ref a1), .val (.int (0 : Int32)), .val (.int p3), .val (.int (0 : Int32))] [(.int (3 : Int32)), (.int (0 : Int32)), (.ref arr)])) (fun t k => XS.iconst X31.here hx rfl (hb hby d5_73) k) ?_
    refine Goes.st (U' := T31.setTop (mkF m 75 #[.val (.ref a1), .val (.int (0 : Int32)), .val (.int p3), .val (.int (0 : Int32))] [(.int (3 : Int32)), (.ref arr)])) (fun t k => XS.iadd X31.here hx rfl (hb hby d5_74) rfl k) ?_
    refine Goes.st (U' := T31.setTop (mkF m 76 #[.val (.ref a1), .val (.int (0 : Int32)), .val (.int p3), .val (.int (0 : Int32))] [(.int p3), (.int (3 : Int32)), (.ref arr)])) (fun t k => XS.iloadN X31.here hx rfl (hb hby d5_75) rfl k) ?_
    refine Goes.st (U' := T31.setTop (mkF m 78 #[.val (.ref a1), .val (.int (0 : Int32)), .val (.int p3), .val (.int (0 : Int32))] [(.int (24 : Int32)), (.int p3), (.int (3 : Int32)), (.ref arr)])) (fun t k => XS.bipush X31.here hx rfl (hb hby d5_76) k) ?_
    refine Goes.st (U' := T31.setTop (mkF m 79 #[.val (.ref a1), .val (.int (0 : Int32)), .val (.int p3), .val (.int (0 : Int32))] [(.int (p3 >>> ((24 : Int32) &&& 31))), (.int (3 : Int32)), (.ref arr)])) (fun t k => XS.ishr X31.here hx rfl (hb hby d5_78) rfl k) ?_
    refine Goes.st (U' := T31.setTop (mkF m 80 #[.val (.ref a1), .val (.int (0 : Int32)), .val (.int p3), .val (.int (0 : Int32))] [(.int ((p3 >>> ((24 : Int32) &&& 31)).toInt8.toInt32)), (.int (3 : Int32)), (.ref arr)])) (fun t k => XS.i2b X31.here hx rfl (hb hby d5_79) rfl k) ?_
    have Vx32 := V29
    obtain ⟨cl32, Ar32, qa32, S32, Nn32, H32, G32⟩ := Vx32
    have hin32 : ¬ ((3 : Int32) < 0 ∨ cl32.slots.size ≤ ((3 : Int32)).toNatClampNeg) := inb_of S32 ⟨by decide, by decide⟩
    obtain ⟨T32, h32, X32, e32, W32, st32⟩ := stB X31 hx hZ e31 Ar32 (j := (3 : Int32)) hin32 (g := (mkF m 80 #[.val (.ref a1), .val (.int (0 : Int32)), .val (.int p3), .val (.int (0 : Int32))] [(.int ((p3 >>> ((24 : Int32) &&& 31)).toInt8.toInt32)), (.int (3 : Int32)), (.ref arr)])) rfl rfl (hb hby d5_80)
    have V32 : Arv Z h32 arr k .byte (12 : Int32) [(.int ((p3.toInt8.toInt32).toInt8.toInt32)), (.int (((p3 >>> ((8 : Int32) &&& 31)).toInt8.toInt32).toInt8.toInt32)), (.int (((p3 >>> ((16 : Int32) &&& 31)).toInt8.toInt32).toInt8.toInt32)), (.int (((p3 >>> ((24 : Int32) &&& 31)).toInt8.toInt32).toInt8.toInt32)), (.int (own_b0 x1)), (.int (own_b1 x1)), (.int (own_b2 x1)), (.int (own_b3 x1)), (.int (own_b0 x2)), (.int (own_b1 x2)), (.int (own_b2 x2)), (.int (own_b3 x2))] (.int (0 : Int32)) := Arv.set Ar32 qa32 S32 Nn32 H32 G32 (fits_nar_byte _) W32 3 rfl (Nat.le_of_ble_eq_true rfl)
    have N32 := Fr.snoc X32 N29 g_arr
    refine Goes.st (U' := T32.setTop (mkF m 81 #[.val (.ref a1), .val (.int (0 : Int32)), .val (.int p3), .val (.int (0 : Int32))] [])) (fun t k => st32 t k) ?_
    refine Goes.retV X32 hx (BodyLoose.notSynchronized Bd) Bd.returns (hb hby d5_81) (by decide) (by decide) ?_
    show Q_rmS0 Z a1 (0 : Int32) p3 x0 x1 x2 h0 n0 _ T32.heap _
    rw [e32]
    exact ⟨rfl, N32, (Nat.le_trans (Nat.le_trans (Nat.le_trans (Nat.le_trans Z0 (Nat.le_of_eq W25.size.symm)) (Nat.le_of_eq W27.size.symm)) (Nat.le_of_eq W29.size.symm)) (Nat.le_of_eq W32.size.symm)), Or.inr ⟨arr, k, ⟨((((E_a1.wr W25).wr W27).wr W29).wr W32), ((((F_length_a1.other W25 (Or.inl ne_a1_arr)).other W27 (Or.inl ne_a1_arr)).other W29 (Or.inl ne_a1_arr)).other W32 (Or.inl ne_a1_arr)), ((((F_bytes_a1.other W25 (Or.inl ne_a1_arr)).other W27 (Or.inl ne_a1_arr)).other W29 (Or.inl ne_a1_arr)).other W32 (Or.inl ne_a1_arr)), ((((F_width_a1.other W25 (Or.inl ne_a1_arr)).other W27 (Or.inl ne_a1_arr)).other W29 (Or.inl ne_a1_arr)).other W32 (Or.inl ne_a1_arr)), V32, ne_a1_arr⟩, g_arr⟩⟩
theorem ef_rmS1 (m : MethodId) (a1 : Addr) (p2 : Int32) (p3 : Int32) : entryFrame m #[(.ref a1), (.int p2), (.int p3)] 4 = mkF m 0 #[.val (.ref a1), .val (.int p2), .val (.int p3), .unset] [] := by first | (simp [entryFrame, mkF, argsToLocals, Value.category]; done) | rfl
def Q_rmS1 (Z : State) (a1 : Addr) (p2 : Int32) (p3 : Int32) (x0 : Int32) (x1 : Int32) (x2 : Int32) (h0 : Heap) (n0 : Nat) (v : Option Value) (h : Heap) (L : List Loc) : Prop := v = none ∧ Fr n0 L ∧ n0 ≤ h.size ∧ PI Z h a1 n0 x0 p3 x2
set_option maxRecDepth 65536 in
set_option maxHeartbeats 40000000 in
theorem rmS1 (l : Launch) (Z : State) (a0 : Array Value) (hw : ∀ d ∈ tables_1, d.before a0 Z = true) (ws : List Jvm.Cond) (a1 : Addr) (p2 : Int32) (p3 : Int32) (x0 : Int32) (x1 : Int32) (x2 : Int32) (h0 : Heap) (n0 : Nat) (Z0 : n0 ≤ h0.size) (I : PI Z h0 a1 n0 x0 x1 x2) (e2 : p2 = (1 : Int32)) (g_a1 : n0 ≤ a1) :
    MetFree l (⟨"com/example/chaise/chaise/core/PackedInts", "set", "(II)V"⟩ : MethodName) (head1 (Jvm.Cond.code (⟨"com/example/chaise/chaise/core/PackedInts", "set", "(II)V"⟩ : MethodName) prog_81_method_6_code 4 none :: ws) ({ frames := 3, cells := 2, slots := 15, locals := 43 } : Room)) (fun a U => a = #[(.ref a1), (.int p2), (.int p3)] ∧ Z.Warmed39 U.vm ∧ U.heap = h0) (fun _ _ _ _ _ => True) (fun _ U o U' => ∃ v L, o = .returned v ∧ Q_rmS1 Z a1 (1 : Int32) p3 x0 x1 x2 h0 n0 v U'.heap L ∧ FrameEnd U o U' L ({ frames := 3, cells := 2, slots := 15, locals := 43 } : Room).cells ({ frames := 3, cells := 2, slots := 15, locals := 43 } : Room).slots) := by
  refine MetFree.of_bodySF (plainFor_of_name pn_0) hisR ?_
  intro p e s m args below meth c s₁ Bd hml0 hP hK
  obtain ⟨rfl, hZ, hh⟩ := hP
  have hx := Bd.exec
  have hby := Bd.bytes
  have hml : c.maxLocals = 4 := hml0
  have hown : s.vm.findClass "com/example/chaise/chaise/core/PackedInts" = some m.cls := findClass_of_methodNamed Bd.named
  have hnm := (name_of_methodNamed Bd.named Bd.method).1
  have X0 : Stand p l e ({ frames := 3, cells := 2, slots := 15, locals := 43 } : Room) s m #[(.ref a1), (.int p2), (.int p3)] below meth c s₁ [] 0 0 := Stand.of_body Bd
  have e0 : s₁.heap = h0 := by rw [← hh, Bd.state]; rfl
  have N0 := Fr.nil n0
  show Goes p e s below (fun v h L => Q_rmS1 Z a1 (1 : Int32) p3 x0 x1 x2 h0 n0 v h L) ({ frames := 3, cells := 2, slots := 15, locals := 43 } : Room).cells ({ frames := 3, cells := 2, slots := 15, locals := 43 } : Room).slots (s₁.setTop (entryFrame m #[(.ref a1), (.int p2), (.int p3)] 4))
  refine Goes.st (U' := s₁.setTop (mkF m 0 #[.val (.ref a1), .val (.int p2), .val (.int p3), .unset] [])) (fun t k => castTop (ef_rmS1 m a1 p2 p3) k) ?_
  subst e2
  rcases I with ⟨arr, k, P, g_arr⟩ | ⟨arr, k, P, g_arr⟩
  · have Pc := P
    obtain ⟨E_a1, F_length_a1, F_bytes_a1, F_width_a1, V_arr, ne_a1_arr, hf0_a1, hf1_a1, hf2_a1⟩ := P
    refine Goes.st (U' := s₁.setTop (mkF m 1 #[.val (.ref a1), .val (.int (1 : Int32)), .val (.int p3), .unset] [(.ref a1)])) (fun t k => XS.aloadN X0.here hx rfl (hb hby d5_0) rfl rfl k) ?_
    obtain ⟨T1, X1, e1, st1⟩ := getF X0 hx hZ hown (host := "") (Or.inl (hw _ (List.mem_of_getElem? (i := 18) rfl))) Via.refl e0 F_width_a1 (g := (mkF m 1 #[.val (.ref a1), .val (.int (1 : Int32)), .val (.int p3), .unset] [(.ref a1)])) rfl rfl (hb hby d5_1)
    refine Goes.st (U' := T1.setTop (mkF m 4 #[.val (.ref a1), .val (.int (1 : Int32)), .val (.int p3), .unset] [(.int (3 : Int32))])) (fun t k => st1 t k) ?_
    refine Goes.st (U' := T1.setTop (mkF m 5 #[.val (.ref a1), .val (.int (1 : Int32)), .val (.int p3), .unset] [(.int (3 : Int32)), (.int (3 : Int32))])) (fun t k => XS.iconst X1.here hx rfl (hb hby d5_4) k) ?_
    refine Goes.st (U' := T1.setTop (mkF m 8 #[.val (.ref a1), .val (.int (1 : Int32)), .val (.int p3), .unset] [])) (fun t k => XS.icmpNo X1.here hx rfl (hb hby d5_5) rfl (teq (rfl : (3 : Int32) = (3 : Int32))).2 k) ?_
    refine Goes.st (U' := T1.setTop (mkF m 9 #[.val (.ref a1), .val (.int (1 : Int32)), .val (.int p3), .unset] [(.int p3)])) (fun t k => XS.iloadN X1.here hx rfl (hb hby d5_8) rfl k) ?_
    obtain ⟨_, _, ⟨T2, L2, k2, n2⟩, -, X2, ⟨Lc2, hQ2, l2, y2, z2⟩, st2⟩ := Jvm.LawKit.callS X1 hx (y := (⟨"com/example/chaise/chaise/core/PackedInts", "fits", "(I)Z"⟩ : MethodName)) hown (mvT hZ (hw _ (List.mem_of_getElem? (i := 31) rfl))) (mvT hZ (hw _ (List.mem_of_getElem? (i := 32) rfl))) (mvT hZ (hw _ (List.mem_of_getElem? (i := 2) rfl))) (mvT hZ (hw _ (List.mem_of_getElem? (i := 33) rfl))) (by decide) (backOf (W := 0) (rm6 l Z a0 hw [] p3 h0 n0 Z0) hZ (hw _ (List.mem_of_getElem? (i := 33) rfl)) (hw _ (List.mem_of_getElem? (i := 2) rfl)) (by decide) (by decide)) (g := (mkF m 9 #[.val (.ref a1), .val (.int (1 : Int32)), .val (.int p3), .unset] [(.int p3)])) rfl (by rw [hml]; rfl) (argsL := [(.int p3)]) (rest := []) (lenOf pd_2 rfl) rfl (by show 2 * 0 + _ ≤ _; exact Nat.le_of_eq rfl) (hb hby d5_9) (fun _ _ => ⟨rfl, e1, (by decide : 0 + 0 ≤ _), (by decide : 0 + 0 ≤ _)⟩)
    dsimp only [Pt.U, Pt.locs, Pt.cells, Pt.slots] at X2 l2 y2 z2 st2 hQ2
    subst l2 y2 z2
    obtain ⟨rfl, N2q, e2⟩ := hQ2
    have N2 := Fr.app N0 N2q
    refine Goes.st (U' := T2.setTop (mkF m 12 #[.val (.ref a1), .val (.int (1 : Int32)), .val (.int p3), .unset] [(.int (fnfits p3))])) st2 ?_
    rcases Decidable.em ((fnfits p3) = (0 : Int32)) with hc12 | hc12
    · refine Goes.st (U' := T2.setTop (mkF m 15 #[.val (.ref a1), .val (.int (1 : Int32)), .val (.int p3), .unset] [])) (fun t k => XS.ifNo X2.here hx rfl (hb hby d5_12) rfl ((if0 _ _).trans (teq hc12).2) k) ?_
      refine Goes.st (U' := T2.setTop (mkF m 16 #[.val (.ref a1), .val (.int (1 : Int32)), .val (.int p3), .unset] [(.ref a1)])) (fun t k => XS.aloadN X2.here hx rfl (hb hby d5_15) rfl rfl k) ?_
      obtain ⟨cqz3, hqz3, hqz3'⟩ := E_a1.cell
      obtain ⟨_, _, ⟨T3, L3, k3, n3⟩, -, X3, ⟨Lc3, hQ3, l3, y3, z3⟩, st3⟩ := X2.privateBack hx (y := (⟨"com/example/chaise/chaise/core/PackedInts", "widen", "()V"⟩ : MethodName)) hown (mvT hZ (hw _ (List.mem_of_getElem? (i := 36) rfl))) (mvT hZ (hw _ (List.mem_of_getElem? (i := 37) rfl))) (own_selp (mvT hZ (hw _ (List.mem_of_getElem? (i := 1) rfl))) (Cond.privateMethod_at (mvP hZ (hw _ (List.mem_of_getElem? (i := 38) rfl)) (args := #[]))) (mvT hZ (hw _ (List.mem_of_getElem? (i := 37) rfl))) (by decide)) (Cond.privateMethod_at (mvP hZ (hw _ (List.mem_of_getElem? (i := 38) rfl)) (args := #[]))) (mvT hZ (hw _ (List.mem_of_getElem? (i := 39) rfl))) (by decide) (backOf (W := 0) (rm7 l Z a0 hw [] a1 arr k x0 x1 x2 h0 n0 Z0 (Pc) (g_a1) (g_arr)) hZ (hw _ (List.mem_of_getElem? (i := 39) rfl)) (hw _ (List.mem_of_getElem? (i := 2) rfl)) (by decide) (by decide)) (g := (mkF m 16 #[.val (.ref a1), .val (.int (1 : Int32)), .val (.int p3), .unset] [(.ref a1)])) rfl (by rw [hml]; rfl) (Steps.refl _) (a := a1) (by rw [e2]; exact hqz3) hqz3' (argsL := []) (rest := []) (lenOf pd_3 rfl) rfl (by show 2 * 0 + _ ≤ _; exact Nat.le_of_eq rfl) (hb hby d5_16) (fun _ _ => ⟨rfl, e2, (by decide : 0 + 2 ≤ _), (by decide : 0 + 15 ≤ _)⟩)
      dsimp only [Pt.U, Pt.locs, Pt.cells, Pt.slots] at X3 l3 y3 z3 st3 hQ3
      subst l3 y3 z3
      obtain ⟨rfl, N3q, Z3, ar3, ka3, I3, g_ar3⟩ := hQ3
      have N3 := Fr.app N2 N3q
      obtain ⟨E_a1, F_length_a1, F_bytes_a1, F_width_a1, V_ar3, ne_a1_ar3⟩ := I3
      refine Goes.tr (U' := T3.setTop (mkF m 19 #[.val (.ref a1), .val (.int (1 : Int32)), .val (.int p3), .unset] [])) st3 ?_
      refine Goes.st (U' := T3.setTop (mkF m 20 #[.val (.ref a1), .val (.int (1 : Int32)), .val (.int p3), .unset] [(.int (1 : Int32))])) (fun t k => XS.iloadN X3.here hx rfl (hb hby d5_19) rfl k) ?_
      refine Goes.st (U' := T3.setTop (mkF m 21 #[.val (.ref a1), .val (.int (1 : Int32)), .val (.int p3), .unset] [(.ref a1), (.int (1 : Int32))])) (fun t k => XS.aloadN X3.here hx rfl (hb hby d5_20) rfl rfl k) ?_
      obtain ⟨T4, X4, e4, st4⟩ := getF X3 hx hZ hown (host := "") (Or.inl (hw _ (List.mem_of_getElem? (i := 18) rfl))) Via.refl rfl F_width_a1 (g := (mkF m 21 #[.val (.ref a1), .val (.int (1 : Int32)), .val (.int p3), .unset] [(.ref a1), (.int (1 : Int32))])) rfl rfl (hb hby d5_21)
      refine Goes.st (U' := T4.setTop (mkF m 24 #[.val (.ref a1), .val (.int (1 : Int32)), .val (.int p3), .unset] [(.int (4 : Int32)), (.int (1 : Int32))])) (fun t k => st4 t k) ?_
      refine Goes.st (U' := T4.setTop (mkF m 25 #[.val (.ref a1), .val (.int (1 : Int32)), .val (.int p3), .unset] [(.int (4 : Int32))])) (fun t k => XS.imul X4.here hx rfl (hb hby d5_24) rfl k) ?_
      refine Goes.st (U' := T4.setTop (mkF m 26 #[.val (.ref a1), .val (.int (1 : Int32)), .val (.int p3), .val (.int (4 : Int32))] [])) (fun t k => XS.istoreN X4.here hx rfl (hb hby d5_25) rfl (l' := #[.val (.ref a1), .val (.int (1 : Int32)), .val (.int p3), .val (.int (4 : Int32))]) rfl k) ?_
      refine Goes.st (U' := T4.setTop (mkF m 27 #[.val (.ref a1), .val (.int (1 : Int32)), .val (.int p3), .val (.int (4 : Int32))] [(.ref a1)])) (fun t k => XS.aloadN X4.here hx rfl (hb hby d5_26) rfl rfl k) ?_
      obtain ⟨T5, X5, e5, st5⟩ := getF X4 hx hZ hown (host := "") (Or.inl (hw _ (List.mem_of_getElem? (i := 16) rfl))) Via.refl e4 F_bytes_a1 (g := (mkF m 27 #[.val (.ref a1), .val (.int (1 : Int32)), .val (.int p3), .val (.int (4 : Int32))] [(.ref a1)])) rfl rfl (hb hby d5_27)
      refine Goes.st (U' := T5.setTop (mkF m 30 #[.val (.ref a1), .val (.int (1 : Int32)), .val (.int p3), .val (.int (4 : Int32))] [(.ref ar3)])) (fun t k => st5 t k) ?_
      refine Goes.st (U' := T5.setTop (mkF m 31 #[.val (.ref a1), .val (.int (1 : Int32)), .val (.int p3), .val (.int (4 : Int32))] [(.int (4 : Int32)), (.ref ar3)])) (fun t k => XS.iloadN X5.here hx rfl (hb hby d5_30) rfl k) ?_
      refine Goes.st (U' := T5.setTop (mkF m 32 #[.val (.ref a1), .val (.int (1 : Int32)), .val (.int p3), .val (.int (4 : Int32))] [(.int p3), (.int (4 : Int32)), (.ref ar3)])) (fun t k => XS.iloadN X5.here hx rfl (hb hby d5_31) rfl k) ?_
      refine Goes.st (U' := T5.setTop (mkF m 33 #[.val (.ref a1), .val (.int (1 : Int32)), .val (.int p3), .val (.int (4 : Int32))] [(.int (p3.toInt8.toInt32)), (.int (4 : Int32)), (.ref ar3)])) (fun t k => XS.i2b X5.here hx rfl (hb hby d5_32) rfl k) ?_
      have Vx6 := V_ar3
      obtain ⟨cl6, Ar6, qa6, S6, Nn6, H6, G6⟩ := Vx6
      have hin6 : ¬ ((4 : Int32) < 0 ∨ cl6.slots.size ≤ ((4 : Int32)).toNatClampNeg) := inb_of S6 ⟨by decide, by decide⟩
      obtain ⟨T6, h6, X6, e6, W6, st6⟩ := stB X5 hx hZ e5 Ar6 (j := (4 : Int32)) hin6 (g := (mkF m 33 #[.val (.ref a1), .val (.int (1 : Int32)), .val (.int p3), .val (.int (4 : Int32))] [(.int (p3.toInt8.toInt32)), (.int (4 : Int32)), (.ref ar3)])) rfl rfl (hb hby d5_33)
      have V6 : Arv Z h6 ar3 ka3 .byte (12 : Int32) [(.int (own_b0 x0)), (.int (own_b1 x0)), (.int (own_b2 x0)), (.int (own_b3 x0)), (.int ((p3.toInt8.toInt32).toInt8.toInt32)), (.int (own_b1 x1)), (.int (own_b2 x1)), (.int (own_b3 x1)), (.int (own_b0 x2)), (.int (own_b1 x2)), (.int (own_b2 x2)), (.int (own_b3 x2))] (.int (0 : Int32)) := Arv.set Ar6 qa6 S6 Nn6 H6 G6 (fits_nar_byte _) W6 4 rfl (Nat.le_of_ble_eq_true rfl)
      have N6 := Fr.snoc X6 N3 g_ar3
      refine Goes.st (U' := T6.setTop (mkF m 34 #[.val (.ref a1), .val (.int (1 : Int32)), .val (.int p3), .val (.int (4 : Int32))] [])) (fun t k => st6 t k) ?_
      refine Goes.st (U' := T6.setTop (mkF m 35 #[.val (.ref a1), .val (.int (1 : Int32)), .val (.int p3), .val (.int (4 : Int32))] [(.ref a1)])) (fun t k => XS.aloadN X6.here hx rfl (hb hby d5_34) rfl rfl k) ?_
      obtain ⟨T7, X7, e7, st7⟩ := getF X6 hx hZ hown (host := "") (Or.inl (hw _ (List.mem_of_getElem? (i := 16) rfl))) Via.refl e6 (F_bytes_a1.other W6 (Or.inl ne_a1_ar3)) (g := (mkF m 35 #[.val (.ref a1), .val (.int (1 : Int32)), .val (.int p3), .val (.int (4 : Int32))] [(.ref a1)])) rfl rfl (hb hby d5_35)
      refine Goes.st (U' := T7.setTop (mkF m 38 #[.val (.ref a1), .val (.int (1 : Int32)), .val (.int p3), .val (.int (4 : Int32))] [(.ref ar3)])) (fun t k => st7 t k) ?_
      refine Goes.st (U' := T7.setTop (mkF m 39 #[.val (.ref a1), .val (.int (1 : Int32)), .val (.int p3), .val (.int (4 : Int32))] [(.int (4 : Int32)), (.ref ar3)])) (fun t k => XS.iloadN X7.here hx rfl (hb hby d5_38) rfl k) ?_
      refine Goes.st (U' := T7.setTop (mkF m 40 #[.val (.ref a1), .val (.int (1 : Int32)), .val (.int p3), .val (.int (4 : Int32))] [(.int (1 : Int32)), (.int (4 : Int32)), (.ref ar3)])) (fun t k => XS.iconst X7.here hx rfl (hb hby d5_39) k) ?_
      refine Goes.st (U' := T7.setTop (mkF m 41 #[.val (.ref a1), .val (.int (1 : Int32)), .val (.int p3), .val (.int (4 : Int32))] [(.int (5 : Int32)), (.ref ar3)])) (fun t k => XS.iadd X7.here hx rfl (hb hby d5_40) rfl k) ?_
      refine Goes.st (U' := T7.setTop (mkF m 42 #[.val (.ref a1), .val (.int (1 : Int32)), .val (.int p3), .val (.int (4 : Int32))] [(.int p3), (.int (5 : Int32)), (.ref ar3)])) (fun t k => XS.iloadN X7.here hx rfl (hb hby d5_41) rfl k) ?_
      refine Goes.st (U' := T7.setTop (mkF m 44 #[.val (.ref a1), .val (.int (1 : Int32)), .val (.int p3), .val (.int (4 : Int32))] [(.int (8 : Int32)), (.int p3), (.int (5 : Int32)), (.ref ar3)])) (fun t k => XS.bipush X7.here hx rfl (hb hby d5_42) k) ?_
      refine Goes.st (U' := T7.setTop (mkF m 45 #[.val (.ref a1), .val (.int (1 : Int32)), .val (.int p3), .val (.int (4 : Int32))] [(.int (p3 >>> ((8 : Int32) &&& 31))), (.int (5 : Int32)), (.ref ar3)])) (fun t k => XS.ishr X7.here hx rfl (hb hby d5_44) rfl k) ?_
      refine Goes.st (U' := T7.setTop (mkF m 46 #[.val (.ref a1), .val (.int (1 : Int32)), .val (.int p3), .val (.int (4 : Int32))] [(.int ((p3 >>> ((8 : Int32) &&& 31)).toInt8.toInt32)), (.int (5 : Int32)), (.ref ar3)])) (fun t k => XS.i2b X7.here hx rfl (hb hby d5_45) rfl k) ?_
      have Vx8 := V6
      obtain ⟨cl8, Ar8, qa8, S8, Nn8, H8, G8⟩ := Vx8
      have hin8 : ¬ ((5 : Int32) < 0 ∨ cl8.slots.size ≤ ((5 : Int32)).toNatClampNeg) := inb_of S8 ⟨by decide, by decide⟩
      obtain ⟨T8, h8, X8, e8, W8, st8⟩ := stB X7 hx hZ e7 Ar8 (j := (5 : Int32)) hin8 (g := (mkF m 46 #[.val (.ref a1), .val (.int (1 : Int32)), .val (.int p3), .val (.int (4 : Int32))] [(.int ((p3 >>> ((8 : Int32) &&& 31)).toInt8.toInt32)), (.int (5 : Int32)), (.ref ar3)])) rfl rfl (hb hby d5_46)
      have V8 : Arv Z h8 ar3 ka3 .byte (12 : Int32) [(.int (own_b0 x0)), (.int (own_b1 x0)), (.int (own_b2 x0)), (.int (own_b3 x0)), (.int ((p3.toInt8.toInt32).toInt8.toInt32)), (.int (((p3 >>> ((8 : Int32) &&& 31)).toInt8.toInt32).toInt8.toInt32)), (.int (own_b2 x1)), (.int (own_b3 x1)), (.int (own_b0 x2)), (.int (own_b1 x2)), (.int (own_b2 x2)), (.int (own_b3 x2))] (.int (0 : Int32)) := Arv.set Ar8 qa8 S8 Nn8 H8 G8 (fits_nar_byte _) W8 5 rfl (Nat.le_of_ble_eq_true rfl)
      have N8 := Fr.snoc X8 N6 g_ar3
      refine Goes.st (U' := T8.setTop (mkF m 47 #[.val (.ref a1), .val (.int (1 : Int32)), .val (.int p3), .val (.int (4 : Int32))] [])) (fun t k => st8 t k) ?_
      refine Goes.st (U' := T8.setTop (mkF m 48 #[.val (.ref a1), .val (.int (1 : Int32)), .val (.int p3), .val (.int (4 : Int32))] [(.ref a1)])) (fun t k => XS.aloadN X8.here hx rfl (hb hby d5_47) rfl rfl k) ?_
      obtain ⟨T9, X9, e9, st9⟩ := getF X8 hx hZ hown (host := "") (Or.inl (hw _ (List.mem_of_getElem? (i := 16) rfl))) Via.refl e8 ((F_bytes_a1.other W6 (Or.inl ne_a1_ar3)).other W8 (Or.inl ne_a1_ar3)) (g := (mkF m 48 #[.val (.ref a1), .val (.int (1 : Int32)), .val (.int p3), .val (.int (4 : Int32))] [(.ref a1)])) rfl rfl (hb hby d5_48)
      refine Goes.st (U' := T9.setTop (mkF m 51 #[.val (.ref a1), .val (.int (1 : Int32)), .val (.int p3), .val (.int (4 : Int32))] [(.ref ar3)])) (fun t k => st9 t k) ?_
      refine Goes.st (U' := T9.setTop (mkF m 52 #[.val (.ref a1), .val (.int (1 : Int32)), .val (.int p3), .val (.int (4 : Int32))] [(.int (4 : Int32)), (.ref ar3)])) (fun t k => XS.iloadN X9.here hx rfl (hb hby d5_51) rfl k) ?_
      refine Goes.st (U' := T9.setTop (mkF m 53 #[.val (.ref a1), .val (.int (1 : Int32)), .val (.int p3), .val (.int (4 : Int32))] [(.int (2 : Int32)), (.int (4 : Int32)), (.ref ar3)])) (fun t k => XS.iconst X9.here hx rfl (hb hby d5_52) k) ?_
      refine Goes.st (U' := T9.setTop (mkF m 54 #[.val (.ref a1), .val (.int (1 : Int32)), .val (.int p3), .val (.int (4 : Int32))] [(.int (6 : Int32)), (.ref ar3)])) (fun t k => XS.iadd X9.here hx rfl (hb hby d5_53) rfl k) ?_
      refine Goes.st (U' := T9.setTop (mkF m 55 #[.val (.ref a1), .val (.int (1 : Int32)), .val (.int p3), .val (.int (4 : Int32))] [(.int p3), (.int (6 : Int32)), (.ref ar3)])) (fun t k => XS.iloadN X9.here hx rfl (hb hby d5_54) rfl k) ?_
      refine Goes.st (U' := T9.setTop (mkF m 57 #[.val (.ref a1), .val (.int (1 : Int32)), .val (.int p3), .val (.int (4 : Int32))] [(.int (16 : Int32)), (.int p3), (.int (6 : Int32)), (.ref ar3)])) (fun t k => XS.bipush X9.here hx rfl (hb hby d5_55) k) ?_
      refine Goes.st (U' := T9.setTop (mkF m 58 #[.val (.ref a1), .val (.int (1 : Int32)), .val (.int p3), .val (.int (4 : Int32))] [(.int (p3 >>> ((16 : Int32) &&& 31))), (.int (6 : Int32)), (.ref ar3)])) (fun t k => XS.ishr X9.here hx rfl (hb hby d5_57) rfl k) ?_
      refine Goes.st (U' := T9.setTop (mkF m 59 #[.val (.ref a1), .val (.int (1 : Int32)), .val (.int p3), .val (.int (4 : Int32))] [(.int ((p3 >>> ((16 : Int32) &&& 31)).toInt8.toInt32)), (.int (6 : Int32)), (.ref ar3)])) (fun t k => XS.i2b X9.here hx rfl (hb hby d5_58) rfl k) ?_
      have Vx10 := V8
      obtain ⟨cl10, Ar10, qa10, S10, Nn10, H10, G10⟩ := Vx10
      have hin10 : ¬ ((6 : Int32) < 0 ∨ cl10.slots.size ≤ ((6 : Int32)).toNatClampNeg) := inb_of S10 ⟨by decide, by decide⟩
      obtain ⟨T10, h10, X10, e10, W10, st10⟩ := stB X9 hx hZ e9 Ar10 (j := (6 : Int32)) hin10 (g := (mkF m 59 #[.val (.ref a1), .val (.int (1 : Int32)), .val (.int p3), .val (.int (4 : Int32))] [(.int ((p3 >>> ((16 : Int32) &&& 31)).toInt8.toInt32)), (.int (6 : Int32)), (.ref ar3)])) rfl rfl (hb hby d5_59)
      have V10 : Arv Z h10 ar3 ka3 .byte (12 : Int32) [(.int (own_b0 x0)), (.int (own_b1 x0)), (.int (own_b2 x0)), (.int (own_b3 x0)), (.int ((p3.toInt8.toInt32).toInt8.toInt32)), (.int (((p3 >>> ((8 : Int32) &&& 31)).toInt8.toInt32).toInt8.toInt32)), (.int (((p3 >>> ((16 : Int32) &&& 31)).toInt8.toInt32).toInt8.toInt32)), (.int (own_b3 x1)), (.int (own_b0 x2)), (.int (own_b1 x2)), (.int (own_b2 x2)), (.int (own_b3 x2))] (.int (0 : Int32)) := Arv.set Ar10 qa10 S10 Nn10 H10 G10 (fits_nar_byte _) W10 6 rfl (Nat.le_of_ble_eq_true rfl)
      have N10 := Fr.snoc X10 N8 g_ar3
      refine Goes.st (U' := T10.setTop (mkF m 60 #[.val (.ref a1), .val (.int (1 : Int32)), .val (.int p3), .val (.int (4 : Int32))] [])) (fun t k => st10 t k) ?_
      refine Goes.st (U' := T10.setTop (mkF m 61 #[.val (.ref a1), .val (.int (1 : Int32)), .val (.int p3), .val (.int (4 : Int32))] [(.ref a1)])) (fun t k => XS.aloadN X10.here hx rfl (hb hby d5_60) rfl rfl k) ?_
      obtain ⟨T11, X11, e11, st11⟩ := getF X10 hx hZ hown (host := "") (Or.inl (hw _ (List.mem_of_getElem? (i := 18) rfl))) Via.refl e10 (((F_width_a1.other W6 (Or.inl ne_a1_ar3)).other W8 (Or.inl ne_a1_ar3)).other W10 (Or.inl ne_a1_ar3)) (g := (mkF m 61 #[.val (.ref a1), .val (.int (1 : Int32)), .val (.int p3), .val (.int (4 : Int32))] [(.ref a1)])) rfl rfl (hb hby d5_61)
      refine Goes.st (U' := T11.setTop (mkF m 64 #[.val (.ref a1), .val (.int (1 : Int32)), .val (.int p3), .val (.int (4 : Int32))] [(.int (4 : Int32))])) (fun t k => st11 t k) ?_
      refine Goes.st (U' := T11.setTop (mkF m 65 #[.val (.ref a1), .val (.int (1 : Int32)), .val (.int p3), .val (.int (4 : Int32))] [(.int (4 : Int32)), (.int (4 : Int32))])) (fun t k => XS.iconst X11.here hx rfl (hb hby d5_64) k) ?_
      refine Goes.st (U' := T11.setTop (mkF m 68 #[.val (.ref a1), .val (.int (1 : Int32)), .val (.int p3), .val (.int (4 : Int32))] [])) (fun t k => XS.icmpNo X11.here hx rfl (hb hby d5_65) rfl (teq (rfl : (4 : Int32) = (4 : Int32))).2 k) ?_
      refine Goes.st (U' := T11.setTop (mkF m 69 #[.val (.ref a1), .val (.int (1 : Int32)), .val (.int p3), .val (.int (4 : Int32))] [(.ref a1)])) (fun t k => XS.aloadN X11.here hx rfl (hb hby d5_68) rfl rfl k) ?_
      obtain ⟨T12, X12, e12, st12⟩ := getF X11 hx hZ hown (host := "") (Or.inl (hw _ (List.mem_of_getElem? (i := 16) rfl))) Via.refl e11 (((F_bytes_a1.other W6 (Or.inl ne_a1_ar3)).other W8 (Or.inl ne_a1_ar3)).other W10 (Or.inl ne_a1_ar3)) (g := (mkF m 69 #[.val (.ref a1), .val (.int (1 : Int32)), .val (.int p3), .val (.int (4 : Int32))] [(.ref a1)])) rfl rfl (hb hby d5_69)
      refine Goes.st (U' := T12.setTop (mkF m 72 #[.val (.ref a1), .val (.int (1 : Int32)), .val (.int p3), .val (.int (4 : Int32))] [(.ref ar3)])) (fun t k => st12 t k) ?_
      refine Goes.st (U' := T12.setTop (mkF m 73 #[.val (.ref a1), .val (.int (1 : Int32)), .val (.int p3), .val (.int (4 : Int32))] [(.int (4 : Int32)), (.ref ar3)])) (fun t k => XS.iloadN X12.here hx rfl (hb hby d5_72) rfl k) ?_
      refine Goes.st (U' := T12.setTop (mkF m 74 #[.val (.ref a1), .val (.int (1 : Int32)), .val (.int p3), .val (.int (4 : Int32))] [(.int (3 : Int32)), (.int (4 : Int32)), (.ref ar3)])) (fun t k => XS.iconst X12.here hx rfl (hb hby d5_73) k) ?_
      refine Goes.st (U' := T12.setTop (mkF m 75 #[.val (.ref a1), .val (.int (1 : Int32)), .val (.int p3), .val (.int (4 : Int32))] [(.int (7 : Int32)), (.ref ar3)])) (fun t k => XS.iadd X12.here hx rfl (hb hby d5_74) rfl k) ?_
      refine Goes.st (U' := T12.setTop (mkF m 76 #[.val (.ref a1), .val (.int (1 : Int32)), .val (.int p3), .val (.int (4 : Int32))] [(.int p3), (.int (7 : Int32)), (.ref ar3)])) (fun t k => XS.iloadN X12.here hx rfl (hb hby d5_75) rfl k) ?_
      refine Goes.st (U' := T12.setTop (mkF m 78 #[.val (.ref a1), .val (.int (1 : Int32)), .val (.int p3), .val (.int (4 : Int32))] [(.int (24 : Int32)), (.int p3), (.int (7 : Int32)), (.ref ar3)])) (fun t k => XS.bipush X12.here hx rfl (hb hby d5_76) k) ?_
      refine Goes.st (U' := T12.setTop (mkF m 79 #[.val (.ref a1), .val (.int (1 : Int32)), .val (.int p3), .val (.int (4 : Int32))] [(.int (p3 >>> ((24 : Int32) &&& 31))), (.int (7 : Int32)), (.ref ar3)])) (fun t k => XS.ishr X12.here hx rfl (hb hby d5_78) rfl k) ?_
      refine Goes.st (U' := T12.setTop (mkF m 80 #[.val (.ref a1), .val (.int (1 : Int32)), .val (.int p3), .val (.int (4 : Int32))] [(.int ((p3 >>> ((24 : Int32) &&& 31)).toInt8.toInt32)), (.int (7 : Int32)), (.ref ar3)])) (fun t k => XS.i2b X12.here hx rfl (hb hby d5_79) rfl k) ?_
      have Vx13 := V10
      obtain ⟨cl13, Ar13, qa13, S13, Nn13, H13, G13⟩ := Vx13
      have hin13 : ¬ ((7 : Int32) < 0 ∨ cl13.slots.size ≤ ((7 : Int32)).toNatClampNeg) := inb_of S13 ⟨by decide, by decide⟩
      obtain ⟨T13, h13, X13, e13, W13, st13⟩ := stB X12 hx hZ e12 Ar13 (j := (7 : Int32)) hin13 (g := (mkF m 80 #[.val (.ref a1), .val (.int (1 : Int32)), .val (.int p3), .val (.int (4 : Int32))] [(.int ((p3 >>> ((24 : Int32) &&& 31)).toInt8.toInt32)), (.int (7 : Int32)), (.ref ar3)])) rfl rfl (hb hby d5_80)
      have V13 : Arv Z h13 ar3 ka3 .byte (12 : Int32) [(.int (own_b0 x0)), (.int (own_b1 x0)), (.int (own_b2 x0)), (.int (own_b3 x0)), (.int ((p3.toInt8.toInt32).toInt8.toInt32)), (.int (((p3 >>> ((8 : Int32) &&& 31)).toInt8.toInt32).toInt8.toInt32)), (.int (((p3 >>> ((16 : Int32) &&& 31)).toInt8.toInt32).toInt8.toInt32)), (.int (((p3 >>> ((24 : Int32) &&& 31)).toInt8.toInt32).toInt8.toInt32)), (.int (own_b0 x2)), (.int (own_b1 x2)), (.int (own_b2 x2)), (.int (own_b3 x2))] (.int (0 : Int32)) := Arv.set Ar13 qa13 S13 Nn13 H13 G13 (fits_nar_byte _) W13 7 rfl (Nat.le_of_ble_eq_true rfl)
      have N13 := Fr.snoc X13 N10 g_ar3
      refine Goes.st (U' := T13.setTop (mkF m 81 #[.val (.ref a1), .val (.int (1 : Int32)), .val (.int p3), .val (.int (4 : Int32))] [])) (fun t k => st13 t k) ?_
      refine Goes.retV X13 hx (BodyLoose.notSynchronized Bd) Bd.returns (hb hby d5_81) (by decide) (by decide) ?_
      show Q_rmS1 Z a1 (1 : Int32) p3 x0 x1 x2 h0 n0 _ T13.heap _
      rw [e13]
      exact ⟨rfl, N13, (Nat.le_trans (Nat.le_trans (Nat.le_trans (Nat.le_trans Z3 (Nat.le_of_eq W6.size.symm)) (Nat.le_of_eq W8.size.symm)) (Nat.le_of_eq W10.size.symm)) (Nat.le_of_eq W13.size.symm)), Or.inr ⟨ar3, ka3, ⟨((((E_a1.wr W6).wr W8).wr W10).wr W13), ((((F_length_a1.other W6 (Or.inl ne_a1_ar3)).other W8 (Or.inl ne_a1_ar3)).other W10 (Or.inl ne_a1_ar3)).other W13 (Or.inl ne_a1_ar3)), ((((F_bytes_a1.other W6 (Or.inl ne_a1_ar3)).other W8 (Or.inl ne_a1_ar3)).other W10 (Or.inl ne_a1_ar3)).other W13 (Or.inl ne_a1_ar3)), ((((F_width_a1.other W6 (Or.inl ne_a1_ar3)).other W8 (Or.inl ne_a1_ar3)).other W10 (Or.inl ne_a1_ar3)).other W13 (Or.inl ne_a1_ar3)), V13, ne_a1_ar3⟩, g_ar3⟩⟩
    · refine Goes.st (U' := T2.setTop (mkF m 19 #[.val (.ref a1), .val (.int (1 : Int32)), .val (.int p3), .unset] [])) (fun t k => XS.ifYes X2.here hx rfl (pc0 := 12) (pc' := 19) rfl (hb hby d5_12) rfl ((if0 _ _).trans (feq hc12).2) (by decide) (by decide) k) ?_
      refine Goes.st (U' := T2.setTop (mkF m 20 #[.val (.ref a1), .val (.int (1 : Int32)), .val (.int p3), .unset] [(.int (1 : Int32))])) (fun t k => XS.iloadN X2.here hx rfl (hb hby d5_19) rfl k) ?_
      refine Goes.st (U' := T2.setTop (mkF m 21 #[.val (.ref a1), .val (.int (1 : Int32)), .val (.int p3), .unset] [(.ref a1), (.int (1 : Int32))])) (fun t k => XS.aloadN X2.here hx rfl (hb hby d5_20) rfl rfl k) ?_
      obtain ⟨T14, X14, e14, st14⟩ := getF X2 hx hZ hown (host := "") (Or.inl (hw _ (List.mem_of_getElem? (i := 18) rfl))) Via.refl e2 F_width_a1 (g := (mkF m 21 #[.val (.ref a1), .val (.int (1 : Int32)), .val (.int p3), .unset] [(.ref a1), (.int (1 : Int32))])) rfl rfl (hb hby d5_21)
      refine Goes.st (U' := T14.setTop (mkF m 24 #[.val (.ref a1), .val (.int (1 : Int32)), .val (.int p3), .unset] [(.int (3 : Int32)), (.int (1 : Int32))])) (fun t k => st14 t k) ?_
      refine Goes.st (U' := T14.setTop (mkF m 25 #[.val (.ref a1), .val (.int (1 : Int32)), .val (.int p3), .unset] [(.int (3 : Int32))])) (fun t k => XS.imul X14.here hx rfl (hb hby d5_24) rfl k) ?_
      refine Goes.st (U' := T14.setTop (mkF m 26 #[.val (.ref a1), .val (.int (1 : Int32)), .val (.int p3), .val (.int (3 : Int32))] [])) (fun t k => XS.istoreN X14.here hx rfl (hb hby d5_25) rfl (l' := #[.val (.ref a1), .val (.int (1 : Int32)), .val (.int p3), .val (.int (3 : Int32))]) rfl k) ?_
      refine Goes.st (U' := T14.setTop (mkF m 27 #[.val (.ref a1), .val (.int (1 : Int32)), .val (.int p3), .val (.int (3 : Int32))] [(.ref a1)])) (fun t k => XS.aloadN X14.here hx rfl (hb hby d5_26) rfl rfl k) ?_
      obtain ⟨T15, X15, e15, st15⟩ := getF X14 hx hZ hown (host := "") (Or.inl (hw _ (List.mem_of_getElem? (i := 16) rfl))) Via.refl e14 F_bytes_a1 (g := (mkF m 27 #[.val (.ref a1), .val (.int (1 : Int32)), .val (.int p3), .val (.int (3 : Int32))] [(.ref a1)])) rfl rfl (hb hby d5_27)
      refine Goes.st (U' := T15.setTop (mkF m 30 #[.val (.ref a1), .val (.int (1 : Int32)), .val (.int p3), .val (.int (3 : Int32))] [(.ref arr)])) (fun t k => st15 t k) ?_
      refine Goes.st (U' := T15.setTop (mkF m 31 #[.val (.ref a1), .val (.int (1 : Int32)), .val (.int p3), .val (.int (3 : Int32))] [(.int (3 : Int32)), (.ref arr)])) (fun t k => XS.iloadN X15.here hx rfl (hb hby d5_30) rfl k) ?_
      refine Goes.st (U' := T15.setTop (mkF m 32 #[.val (.ref a1), .val (.int (1 : Int32)), .val (.int p3), .val (.int (3 : Int32))] [(.int p3), (.int (3 : Int32)), (.ref arr)])) (fun t k => XS.iloadN X15.here hx rfl (hb hby d5_31) rfl k) ?_
      refine Goes.st (U' := T15.setTop (mkF m 33 #[.val (.ref a1), .val (.int (1 : Int32)), .val (.int p3), .val (.int (3 : Int32))] [(.int (p3.toInt8.toInt32)), (.int (3 : Int32)), (.ref arr)])) (fun t k => XS.i2b X15.here hx rfl (hb hby d5_32) rfl k) ?_
      have Vx16 := V_arr
      obtain ⟨cl16, Ar16, qa16, S16, Nn16, H16, G16⟩ := Vx16
      have hin16 : ¬ ((3 : Int32) < 0 ∨ cl16.slots.size ≤ ((3 : Int32)).toNatClampNeg) := inb_of S16 ⟨by decide, by decide⟩
      obtain ⟨T16, h16, X16, e16, W16, st16⟩ := stB X15 hx hZ e15 Ar16 (j := (3 : Int32)) hin16 (g := (mkF m 33 #[.val (.ref a1), .val (.int (1 : Int32)), .val (.int p3), .val (.int (3 : Int32))] [(.int (p3.toInt8.toInt32)), (.int (3 : Int32)), (.ref arr)])) rfl rfl (hb hby d5_33)
      have V16 : Arv Z h16 arr k .byte (9 : Int32) [(.int (own_b0 x0)), (.int (own_b1 x0)), (.int (own_b2 x0)), (.int ((p3.toInt8.toInt32).toInt8.toInt32)), (.int (own_b1 x1)), (.int (own_b2 x1)), (.int (own_b0 x2)), (.int (own_b1 x2)), (.int (own_b2 x2))] (.int (0 : Int32)) := Arv.set Ar16 qa16 S16 Nn16 H16 G16 (fits_nar_byte _) W16 3 rfl (Nat.le_of_ble_eq_true rfl)
      have N16 := Fr.snoc X16 N2 g_arr
      refine Goes.st (U' := T16.setTop (mkF m 34 #[.val (.ref a1), .val (.int (1 : Int32)), .val (.int p3), .val (.int (3 : Int32))] [])) (fun t k => st16 t k) ?_
      refine Goes.st (U' := T16.setTop (mkF m 35 #[.val (.ref a1), .val (.int (1 : Int32)), .val (.int p3), .val (.int (3 : Int32))] [(.ref a1)])) (fun t k => XS.aloadN X16.here hx rfl (hb hby d5_34) rfl rfl k) ?_
      obtain ⟨T17, X17, e17, st17⟩ := getF X16 hx hZ hown (host := "") (Or.inl (hw _ (List.mem_of_getElem? (i := 16) rfl))) Via.refl e16 (F_bytes_a1.other W16 (Or.inl ne_a1_arr)) (g := (mkF m 35 #[.val (.ref a1), .val (.int (1 : Int32)), .val (.int p3), .val (.int (3 : Int32))] [(.ref a1)])) rfl rfl (hb hby d5_35)
      refine Goes.st (U' := T17.setTop (mkF m 38 #[.val (.ref a1), .val (.int (1 : Int32)), .val (.int p3), .val (.int (3 : Int32))] [(.ref arr)])) (fun t k => st17 t k) ?_
      refine Goes.st (U' := T17.setTop (mkF m 39 #[.val (.ref a1), .val (.int (1 : Int32)), .val (.int p3), .val (.int (3 : Int32))] [(.int (3 : Int32)), (.ref arr)])) (fun t k => XS.iloadN X17.here hx rfl (hb hby d5_38) rfl k) ?_
      refine Goes.st (U' := T17.setTop (mkF m 40 #[.val (.ref a1), .val (.int (1 : Int32)), .val (.int p3), .val (.int (3 : Int32))] [(.int (1 : Int32)), (.int (3 : Int32)), (.ref arr)])) (fun t k => XS.iconst X17.here hx rfl (hb hby d5_39) k) ?_
      refine Goes.st (U' := T17.setTop (mkF m 41 #[.val (.ref a1), .val (.int (1 : Int32)), .val (.int p3), .val (.int (3 : Int32))] [(.int (4 : Int32)), (.ref arr)])) (fun t k => XS.iadd X17.here hx rfl (hb hby d5_40) rfl k) ?_
      refine Goes.st (U' := T17.setTop (mkF m 42 #[.val (.ref a1), .val (.int (1 : Int32)), .val (.int p3), .val (.int (3 : Int32))] [(.int p3), (.int (4 : Int32)), (.ref arr)])) (fun t k => XS.iloadN X17.here hx rfl (hb hby d5_41) rfl k) ?_
      refine Goes.st (U' := T17.setTop (mkF m 44 #[.val (.ref a1), .val (.int (1 : Int32)), .val (.int p3), .val (.int (3 : Int32))] [(.int (8 : Int32)), (.int p3), (.int (4 : Int32)), (.ref arr)])) (fun t k => XS.bipush X17.here hx rfl (hb hby d5_42) k) ?_
      refine Goes.st (U' := T17.setTop (mkF m 45 #[.val (.ref a1), .val (.int (1 : Int32)), .val (.int p3), .val (.int (3 : Int32))] [(.int (p3 >>> ((8 : Int32) &&& 31))), (.int (4 : Int32)), (.ref arr)])) (fun t k => XS.ishr X17.here hx rfl (hb hby d5_44) rfl k) ?_
      refine Goes.st (U' := T17.setTop (mkF m 46 #[.val (.ref a1), .val (.int (1 : Int32)), .val (.int p3), .val (.int (3 : Int32))] [(.int ((p3 >>> ((8 : Int32) &&& 31)).toInt8.toInt32)), (.int (4 : Int32)), (.ref arr)])) (fun t k => XS.i2b X17.here hx rfl (hb hby d5_45) rfl k) ?_
      have Vx18 := V16
      obtain ⟨cl18, Ar18, qa18, S18, Nn18, H18, G18⟩ := Vx18
      have hin18 : ¬ ((4 : Int32) < 0 ∨ cl18.slots.size ≤ ((4 : Int32)).toNatClampNeg) := inb_of S18 ⟨by decide, by decide⟩
      obtain ⟨T18, h18, X18, e18, W18, st18⟩ := stB X17 hx hZ e17 Ar18 (j := (4 : Int32)) hin18 (g := (mkF m 46 #[.val (.ref a1), .val (.int (1 : Int32)), .val (.int p3), .val (.int (3 : Int32))] [(.int ((p3 >>> ((8 : Int32) &&& 31)).toInt8.toInt32)), (.int (4 : Int32)), (.ref arr)])) rfl rfl (hb hby d5_46)
      have V18 : Arv Z h18 arr k .byte (9 : Int32) [(.int (own_b0 x0)), (.int (own_b1 x0)), (.int (own_b2 x0)), (.int ((p3.toInt8.toInt32).toInt8.toInt32)), (.int (((p3 >>> ((8 : Int32) &&& 31)).toInt8.toInt32).toInt8.toInt32)), (.int (own_b2 x1)), (.int (own_b0 x2)), (.int (own_b1 x2)), (.int (own_b2 x2))] (.int (0 : Int32)) := Arv.set Ar18 qa18 S18 Nn18 H18 G18 (fits_nar_byte _) W18 4 rfl (Nat.le_of_ble_eq_true rfl)
      have N18 := Fr.snoc X18 N16 g_arr
      refine Goes.st (U' := T18.setTop (mkF m 47 #[.val (.ref a1), .val (.int (1 : Int32)), .val (.int p3), .val (.int (3 : Int32))] [])) (fun t k => st18 t k) ?_
      refine Goes.st (U' := T18.setTop (mkF m 48 #[.val (.ref a1), .val (.int (1 : Int32)), .val (.int p3), .val (.int (3 : Int32))] [(.ref a1)])) (fun t k => XS.aloadN X18.here hx rfl (hb hby d5_47) rfl rfl k) ?_
      obtain ⟨T19, X19, e19, st19⟩ := getF X18 hx hZ hown (host := "") (Or.inl (hw _ (List.mem_of_getElem? (i := 16) rfl))) Via.refl e18 ((F_bytes_a1.other W16 (Or.inl ne_a1_arr)).other W18 (Or.inl ne_a1_arr)) (g := (mkF m 48 #[.val (.ref a1), .val (.int (1 : Int32)), .val (.int p3), .val (.int (3 : Int32))] [(.ref a1)])) rfl rfl (hb hby d5_48)
      refine Goes.st (U' := T19.setTop (mkF m 51 #[.val (.ref a1), .val (.int (1 : Int32)), .val (.int p3), .val (.int (3 : Int32))] [(.ref arr)])) (fun t k => st19 t k) ?_
      refine Goes.st (U' := T19.setTop (mkF m 52 #[.val (.ref a1), .val (.int (1 : Int32)), .val (.int p3), .val (.int (3 : Int32))] [(.int (3 : Int32)), (.ref arr)])) (fun t k => XS.iloadN X19.here hx rfl (hb hby d5_51) rfl k) ?_
      refine Goes.st (U' := T19.setTop (mkF m 53 #[.val (.ref a1), .val (.int (1 : Int32)), .val (.int p3), .val (.int (3 : Int32))] [(.int (2 : Int32)), (.int (3 : Int32)), (.ref arr)])) (fun t k => XS.iconst X19.here hx rfl (hb hby d5_52) k) ?_
      refine Goes.st (U' := T19.setTop (mkF m 54 #[.val (.ref a1), .val (.int (1 : Int32)), .val (.int p3), .val (.int (3 : Int32))] [(.int (5 : Int32)), (.ref arr)])) (fun t k => XS.iadd X19.here hx rfl (hb hby d5_53) rfl k) ?_
      refine Goes.st (U' := T19.setTop (mkF m 55 #[.val (.ref a1), .val (.int (1 : Int32)), .val (.int p3), .val (.int (3 : Int32))] [(.int p3), (.int (5 : Int32)), (.ref arr)])) (fun t k => XS.iloadN X19.here hx rfl (hb hby d5_54) rfl k) ?_
      refine Goes.st (U' := T19.setTop (mkF m 57 #[.val (.ref a1), .val (.int (1 : Int32)), .val (.int p3), .val (.int (3 : Int32))] [(.int (16 : Int32)), (.int p3), (.int (5 : Int32)), (.ref arr)])) (fun t k => XS.bipush X19.here hx rfl (hb hby d5_55) k) ?_
      refine Goes.st (U' := T19.setTop (mkF m 58 #[.val (.ref a1), .val (.int (1 : Int32)), .val (.int p3), .val (.int (3 : Int32))] [(.int (p3 >>> ((16 : Int32) &&& 31))), (.int (5 : Int32)), (.ref arr)])) (fun t k => XS.ishr X19.here hx rfl (hb hby d5_57) rfl k) ?_
      refine Goes.st (U' := T19.setTop (mkF m 59 #[.val (.ref a1), .val (.int (1 : Int32)), .val (.int p3), .val (.int (3 : Int32))] [(.int ((p3 >>> ((16 : Int32) &&& 31)).toInt8.toInt32)), (.int (5 : Int32)), (.ref arr)])) (fun t k => XS.i2b X19.here hx rfl (hb hby d5_58) rfl k) ?_
      have Vx20 := V18
      obtain ⟨cl20, Ar20, qa20, S20, Nn20, H20, G20⟩ := Vx20
      have hin20 : ¬ ((5 : Int32) < 0 ∨ cl20.slots.size ≤ ((5 : Int32)).toNatClampNeg) := inb_of S20 ⟨by decide, by decide⟩
      obtain ⟨T20, h20, X20, e20, W20, st20⟩ := stB X19 hx hZ e19 Ar20 (j := (5 : Int32)) hin20 (g := (mkF m 59 #[.val (.ref a1), .val (.int (1 : Int32)), .val (.int p3), .val (.int (3 : Int32))] [(.int ((p3 >>> ((16 : Int32) &&& 31)).toInt8.toInt32)), (.int (5 : Int32)), (.ref arr)])) rfl rfl (hb hby d5_59)
      have V20 : Arv Z h20 arr k .byte (9 : Int32) [(.int (own_b0 x0)), (.int (own_b1 x0)), (.int (own_b2 x0)), (.int ((p3.toInt8.toInt32).toInt8.toInt32)), (.int (((p3 >>> ((8 : Int32) &&& 31)).toInt8.toInt32).toInt8.toInt32)), (.int (((p3 >>> ((16 : Int32) &&& 31)).toInt8.toInt32).toInt8.toInt32)), (.int (own_b0 x2)), (.int (own_b1 x2)), (.int (own_b2 x2))] (.int (0 : Int32)) := Arv.set Ar20 qa20 S20 Nn20 H20 G20 (fits_nar_byte _) W20 5 rfl (Nat.le_of_ble_eq_true rfl)
      have N20 := Fr.snoc X20 N18 g_arr
      refine Goes.st (U' := T20.setTop (mkF m 60 #[.val (.ref a1), .val (.int (1 : Int32)), .val (.int p3), .val (.int (3 : Int32))] [])) (fun t k => st20 t k) ?_
      refine Goes.st (U' := T20.setTop (mkF m 61 #[.val (.ref a1), .val (.int (1 : Int32)), .val (.int p3), .val (.int (3 : Int32))] [(.ref a1)])) (fun t k => XS.aloadN X20.here hx rfl (hb hby d5_60) rfl rfl k) ?_
      obtain ⟨T21, X21, e21, st21⟩ := getF X20 hx hZ hown (host := "") (Or.inl (hw _ (List.mem_of_getElem? (i := 18) rfl))) Via.refl e20 (((F_width_a1.other W16 (Or.inl ne_a1_arr)).other W18 (Or.inl ne_a1_arr)).other W20 (Or.inl ne_a1_arr)) (g := (mkF m 61 #[.val (.ref a1), .val (.int (1 : Int32)), .val (.int p3), .val (.int (3 : Int32))] [(.ref a1)])) rfl rfl (hb hby d5_61)
      refine Goes.st (U' := T21.setTop (mkF m 64 #[.val (.ref a1), .val (.int (1 : Int32)), .val (.int p3), .val (.int (3 : Int32))] [(.int (3 : Int32))])) (fun t k => st21 t k) ?_
      refine Goes.st (U' := T21.setTop (mkF m 65 #[.val (.ref a1), .val (.int (1 : Int32)), .val (.int p3), .val (.int (3 : Int32))] [(.int (4 : Int32)), (.int (3 : Int32))])) (fun t k => XS.iconst X21.here hx rfl (hb hby d5_64) k) ?_
      refine Goes.st (U' := T21.setTop (mkF m 81 #[.val (.ref a1), .val (.int (1 : Int32)), .val (.int p3), .val (.int (3 : Int32))] [])) (fun t k => XS.icmpYes X21.here hx rfl (pc0 := 65) (pc' := 81) rfl (hb hby d5_65) rfl (feq (by decide : ¬ ((3 : Int32) = (4 : Int32)))).2 (by decide) (by decide) k) ?_
      refine Goes.retV X21 hx (BodyLoose.notSynchronized Bd) Bd.returns (hb hby d5_81) (by decide) (by decide) ?_
      show Q_rmS1 Z a1 (1 : Int32) p3 x0 x1 x2 h0 n0 _ T21.heap _
      rw [e21]
      exact ⟨rfl, N20, (Nat.le_trans (Nat.le_trans (Nat.le_trans Z0 (Nat.le_of_eq W16.size.symm)) (Nat.le_of_eq W18.size.symm)) (Nat.le_of_eq W20.size.symm)), Or.inl ⟨arr, k, ⟨(((E_a1.wr W16).wr W18).wr W20), (((F_length_a1.other W16 (Or.inl ne_a1_arr)).other W18 (Or.inl ne_a1_arr)).other W20 (Or.inl ne_a1_arr)), (((F_bytes_a1.other W16 (Or.inl ne_a1_arr)).other W18 (Or.inl ne_a1_arr)).other W20 (Or.inl ne_a1_arr)), (((F_width_a1.other W16 (Or.inl ne_a1_arr)).other W18 (Or.inl ne_a1_arr)).other W20 (Or.inl ne_a1_arr)), V20, ne_a1_arr, hf0_a1, (own_fits1 _ hc12), hf2_a1⟩, g_arr⟩⟩
  · have Pc := P
    obtain ⟨E_a1, F_length_a1, F_bytes_a1, F_width_a1, V_arr, ne_a1_arr⟩ := P
    refine Goes.st (U' := s₁.setTop (mkF m 1 #[.val (.ref a1), .val (.int (1 : Int32)), .val (.int p3), .unset] [(.ref a1)])) (fun t k => XS.aloadN X0.here hx rfl (hb hby d5_0) rfl rfl k) ?_
    obtain ⟨T22, X22, e22, st22⟩ := getF X0 hx hZ hown (host := "") (Or.inl (hw _ (List.mem_of_getElem? (i := 18) rfl))) Via.refl e0 F_width_a1 (g := (mkF m 1 #[.val (.ref a1), .val (.int (1 : Int32)), .val (.int p3), .unset] [(.ref a1)])) rfl rfl (hb hby d5_1)
    refine Goes.st (U' := T22.setTop (mkF m 4 #[.val (.ref a1), .val (.int (1 : Int32)), .val (.int p3), .unset] [(.int (4 : Int32))])) (fun t k => st22 t k) ?_
    refine Goes.st (U' := T22.setTop (mkF m 5 #[.val (.ref a1), .val (.int (1 : Int32)), .val (.int p3), .unset] [(.int (3 : Int32)), (.int (4 : Int32))])) (fun t k => XS.iconst X22.here hx rfl (hb hby d5_4) k) ?_
    refine Goes.st (U' := T22.setTop (mkF m 19 #[.val (.ref a1), .val (.int (1 : Int32)), .val (.int p3), .unset] [])) (fun t k => XS.icmpYes X22.here hx rfl (pc0 := 5) (pc' := 19) rfl (hb hby d5_5) rfl (feq (by decide : ¬ ((4 : Int32) = (3 : Int32)))).2 (by decide) (by decide) k) ?_
    refine Goes.st (U' := T22.setTop (mkF m 20 #[.val (.ref a1), .val (.int (1 : Int32)), .val (.int p3), .unset] [(.int (1 : Int32))])) (fun t k => XS.iloadN X22.here hx rfl (hb hby d5_19) rfl k) ?_
    refine Goes.st (U' := T22.setTop (mkF m 21 #[.val (.ref a1), .val (.int (1 : Int32)), .val (.int p3), .unset] [(.ref a1), (.int (1 : Int32))])) (fun t k => XS.aloadN X22.here hx rfl (hb hby d5_20) rfl rfl k) ?_
    obtain ⟨T23, X23, e23, st23⟩ := getF X22 hx hZ hown (host := "") (Or.inl (hw _ (List.mem_of_getElem? (i := 18) rfl))) Via.refl e22 F_width_a1 (g := (mkF m 21 #[.val (.ref a1), .val (.int (1 : Int32)), .val (.int p3), .unset] [(.ref a1), (.int (1 : Int32))])) rfl rfl (hb hby d5_21)
    refine Goes.st (U' := T23.setTop (mkF m 24 #[.val (.ref a1), .val (.int (1 : Int32)), .val (.int p3), .unset] [(.int (4 : Int32)), (.int (1 : Int32))])) (fun t k => st23 t k) ?_
    refine Goes.st (U' := T23.setTop (mkF m 25 #[.val (.ref a1), .val (.int (1 : Int32)), .val (.int p3), .unset] [(.int (4 : Int32))])) (fun t k => XS.imul X23.here hx rfl (hb hby d5_24) rfl k) ?_
    refine Goes.st (U' := T23.setTop (mkF m 26 #[.val (.ref a1), .val (.int (1 : Int32)), .val (.int p3), .val (.int (4 : Int32))] [])) (fun t k => XS.istoreN X23.here hx rfl (hb hby d5_25) rfl (l' := #[.val (.ref a1), .val (.int (1 : Int32)), .val (.int p3), .val (.int (4 : Int32))]) rfl k) ?_
    refine Goes.st (U' := T23.setTop (mkF m 27 #[.val (.ref a1), .val (.int (1 : Int32)), .val (.int p3), .val (.int (4 : Int32))] [(.ref a1)])) (fun t k => XS.aloadN X23.here hx rfl (hb hby d5_26) rfl rfl k) ?_
    obtain ⟨T24, X24, e24, st24⟩ := getF X23 hx hZ hown (host := "") (Or.inl (hw _ (List.mem_of_getElem? (i := 16) rfl))) Via.refl e23 F_bytes_a1 (g := (mkF m 27 #[.val (.ref a1), .val (.int (1 : Int32)), .val (.int p3), .val (.int (4 : Int32))] [(.ref a1)])) rfl rfl (hb hby d5_27)
    refine Goes.st (U' := T24.setTop (mkF m 30 #[.val (.ref a1), .val (.int (1 : Int32)), .val (.int p3), .val (.int (4 : Int32))] [(.ref arr)])) (fun t k => st24 t k) ?_
    refine Goes.st (U' := T24.setTop (mkF m 31 #[.val (.ref a1), .val (.int (1 : Int32)), .val (.int p3), .val (.int (4 : Int32))] [(.int (4 : Int32)), (.ref arr)])) (fun t k => XS.iloadN X24.here hx rfl (hb hby d5_30) rfl k) ?_
    refine Goes.st (U' := T24.setTop (mkF m 32 #[.val (.ref a1), .val (.int (1 : Int32)), .val (.int p3), .val (.int (4 : Int32))] [(.int p3), (.int (4 : Int32)), (.ref arr)])) (fun t k => XS.iloadN X24.here hx rfl (hb hby d5_31) rfl k) ?_
    refine Goes.st (U' := T24.setTop (mkF m 33 #[.val (.ref a1), .val (.int (1 : Int32)), .val (.int p3), .val (.int (4 : Int32))] [(.int (p3.toInt8.toInt32)), (.int (4 : Int32)), (.ref arr)])) (fun t k => XS.i2b X24.here hx rfl (hb hby d5_32) rfl k) ?_
    have Vx25 := V_arr
    obtain ⟨cl25, Ar25, qa25, S25, Nn25, H25, G25⟩ := Vx25
    have hin25 : ¬ ((4 : Int32) < 0 ∨ cl25.slots.size ≤ ((4 : Int32)).toNatClampNeg) := inb_of S25 ⟨by decide, by decide⟩
    obtain ⟨T25, h25, X25, e25, W25, st25⟩ := stB X24 hx hZ e24 Ar25 (j := (4 : Int32)) hin25 (g := (mkF m 33 #[.val (.ref a1), .val (.int (1 : Int32)), .val (.int p3), .val (.int (4 : Int32))] [(.int (p3.toInt8.toInt32)), (.int (4 : Int32)), (.ref arr)])) rfl rfl (hb hby d5_33)
    have V25 : Arv Z h25 arr k .byte (12 : Int32) [(.int (own_b0 x0)), (.int (own_b1 x0)), (.int (own_b2 x0)), (.int (own_b3 x0)), (.int ((p3.toInt8.toInt32).toInt8.toInt32)), (.int (own_b1 x1)), (.int (own_b2 x1)), (.int (own_b3 x1)), (.int (own_b0 x2)), (.int (own_b1 x2)), (.int (own_b2 x2)), (.int (own_b3 x2))] (.int (0 : Int32)) := Arv.set Ar25 qa25 S25 Nn25 H25 G25 (fits_nar_byte _) W25 4 rfl (Nat.le_of_ble_eq_true rfl)
    have N25 := Fr.snoc X25 N0 g_arr
    refine Goes.st (U' := T25.setTop (mkF m 34 #[.val (.ref a1), .val (.int (1 : Int32)), .val (.int p3), .val (.int (4 : Int32))] [])) (fun t k => st25 t k) ?_
    refine Goes.st (U' := T25.setTop (mkF m 35 #[.val (.ref a1), .val (.int (1 : Int32)), .val (.int p3), .val (.int (4 : Int32))] [(.ref a1)])) (fun t k => XS.aloadN X25.here hx rfl (hb hby d5_34) rfl rfl k) ?_
    obtain ⟨T26, X26, e26, st26⟩ := getF X25 hx hZ hown (host := "") (Or.inl (hw _ (List.mem_of_getElem? (i := 16) rfl))) Via.refl e25 (F_bytes_a1.other W25 (Or.inl ne_a1_arr)) (g := (mkF m 35 #[.val (.ref a1), .val (.int (1 : Int32)), .val (.int p3), .val (.int (4 : Int32))] [(.ref a1)])) rfl rfl (hb hby d5_35)
    refine Goes.st (U' := T26.setTop (mkF m 38 #[.val (.ref a1), .val (.int (1 : Int32)), .val (.int p3), .val (.int (4 : Int32))] [(.ref arr)])) (fun t k => st26 t k) ?_
    refine Goes.st (U' := T26.setTop (mkF m 39 #[.val (.ref a1), .val (.int (1 : Int32)), .val (.int p3), .val (.int (4 : Int32))] [(.int (4 : Int32)), (.ref arr)])) (fun t k => XS.iloadN X26.here hx rfl (hb hby d5_38) rfl k) ?_
    refine Goes.st (U' := T26.setTop (mkF m 40 #[.val (.ref a1), .val (.int (1 : Int32)), .val (.int p3), .val (.int (4 : Int32))] [(.int (1 : Int32)), (.int (4 : Int32)), (.ref arr)])) (fun t k => XS.iconst X26.here hx rfl (hb hby d5_39) k) ?_
    refine Goes.st (U' := T26.setTop (mkF m 41 #[.val (.ref a1), .val (.int (1 : Int32)), .val (.int p3), .val (.int (4 : Int32))] [(.int (5 : Int32)), (.ref arr)])) (fun t k => XS.iadd X26.here hx rfl (hb hby d5_40) rfl k) ?_
    refine Goes.st (U' := T26.setTop (mkF m 42 #[.val (.ref a1), .val (.int (1 : Int32)), .val (.int p3), .val (.int (4 : Int32))] [(.int p3), (.int (5 : Int32)), (.ref arr)])) (fun t k => XS.iloadN X26.here hx rfl (hb hby d5_41) rfl k) ?_
    refine Goes.st (U' := T26.setTop (mkF m 44 #[.val (.ref a1), .val (.int (1 : Int32)), .val (.int p3), .val (.int (4 : Int32))] [(.int (8 : Int32)), (.int p3), (.int (5 : Int32)), (.ref arr)])) (fun t k => XS.bipush X26.here hx rfl (hb hby d5_42) k) ?_
    refine Goes.st (U' := T26.setTop (mkF m 45 #[.val (.ref a1), .val (.int (1 : Int32)), .val (.int p3), .val (.int (4 : Int32))] [(.int (p3 >>> ((8 : Int32) &&& 31))), (.int (5 : Int32)), (.ref arr)])) (fun t k => XS.ishr X26.here hx rfl (hb hby d5_44) rfl k) ?_
    refine Goes.st (U' := T26.setTop (mkF m 46 #[.val (.ref a1), .val (.int (1 : Int32)), .val (.int p3), .val (.int (4 : Int32))] [(.int ((p3 >>> ((8 : Int32) &&& 31)).toInt8.toInt32)), (.int (5 : Int32)), (.ref arr)])) (fun t k => XS.i2b X26.here hx rfl (hb hby d5_45) rfl k) ?_
    have Vx27 := V25
    obtain ⟨cl27, Ar27, qa27, S27, Nn27, H27, G27⟩ := Vx27
    have hin27 : ¬ ((5 : Int32) < 0 ∨ cl27.slots.size ≤ ((5 : Int32)).toNatClampNeg) := inb_of S27 ⟨by decide, by decide⟩
    obtain ⟨T27, h27, X27, e27, W27, st27⟩ := stB X26 hx hZ e26 Ar27 (j := (5 : Int32)) hin27 (g := (mkF m 46 #[.val (.ref a1), .val (.int (1 : Int32)), .val (.int p3), .val (.int (4 : Int32))] [(.int ((p3 >>> ((8 : Int32) &&& 31)).toInt8.toInt32)), (.int (5 : Int32)), (.ref arr)])) rfl rfl (hb hby d5_46)
    have V27 : Arv Z h27 arr k .byte (12 : Int32) [(.int (own_b0 x0)), (.int (own_b1 x0)), (.int (own_b2 x0)), (.int (own_b3 x0)), (.int ((p3.toInt8.toInt32).toInt8.toInt32)), (.int (((p3 >>> ((8 : Int32) &&& 31)).toInt8.toInt32).toInt8.toInt32)), (.int (own_b2 x1)), (.int (own_b3 x1)), (.int (own_b0 x2)), (.int (own_b1 x2)), (.int (own_b2 x2)), (.int (own_b3 x2))] (.int (0 : Int32)) := Arv.set Ar27 qa27 S27 Nn27 H27 G27 (fits_nar_byte _) W27 5 rfl (Nat.le_of_ble_eq_true rfl)
    have N27 := Fr.snoc X27 N25 g_arr
    refine Goes.st (U' := T27.setTop (mkF m 47 #[.val (.ref a1), .val (.int (1 : Int32)), .val (.int p3), .val (.int (4 : Int32))] [])) (fun t k => st27 t k) ?_
    refine Goes.st (U' := T27.setTop (mkF m 48 #[.val (.ref a1), .val (.int (1 : Int32)), .val (.int p3), .val (.int (4 : Int32))] [(.ref a1)])) (fun t k => XS.aloadN X27.here hx rfl (hb hby d5_47) rfl rfl k) ?_
    obtain ⟨T28, X28, e28, st28⟩ := getF X27 hx hZ hown (host := "") (Or.inl (hw _ (List.mem_of_getElem? (i := 16) rfl))) Via.refl e27 ((F_bytes_a1.other W25 (Or.inl ne_a1_arr)).other W27 (Or.inl ne_a1_arr)) (g := (mkF m 48 #[.val (.ref a1), .val (.int (1 : Int32)), .val (.int p3), .val (.int (4 : Int32))] [(.ref a1)])) rfl rfl (hb hby d5_48)
    refine Goes.st (U' := T28.setTop (mkF m 51 #[.val (.ref a1), .val (.int (1 : Int32)), .val (.int p3), .val (.int (4 : Int32))] [(.ref arr)])) (fun t k => st28 t k) ?_
    refine Goes.st (U' := T28.setTop (mkF m 52 #[.val (.ref a1), .val (.int (1 : Int32)), .val (.int p3), .val (.int (4 : Int32))] [(.int (4 : Int32)), (.ref arr)])) (fun t k => XS.iloadN X28.here hx rfl (hb hby d5_51) rfl k) ?_
    refine Goes.st (U' := T28.setTop (mkF m 53 #[.val (.ref a1), .val (.int (1 : Int32)), .val (.int p3), .val (.int (4 : Int32))] [(.int (2 : Int32)), (.int (4 : Int32)), (.ref arr)])) (fun t k => XS.iconst X28.here hx rfl (hb hby d5_52) k) ?_
    refine Goes.st (U' := T28.setTop (mkF m 54 #[.val (.ref a1), .val (.int (1 : Int32)), .val (.int p3), .val (.int (4 : Int32))] [(.int (6 : Int32)), (.ref arr)])) (fun t k => XS.iadd X28.here hx rfl (hb hby d5_53) rfl k) ?_
    refine Goes.st (U' := T28.setTop (mkF m 55 #[.val (.ref a1), .val (.int (1 : Int32)), .val (.int p3), .val (.int (4 : Int32))] [(.int p3), (.int (6 : Int32)), (.ref arr)])) (fun t k => XS.iloadN X28.here hx rfl (hb hby d5_54) rfl k) ?_
    refine Goes.st (U' := T28.setTop (mkF m 57 #[.val (.ref a1), .val (.int (1 : Int32)), .val (.int p3), .val (.int (4 : Int32))] [(.int (16 : Int32)), (.int p3), (.int (6 : Int32)), (.ref arr)])) (fun t k => XS.bipush X28.here hx rfl (hb hby d5_55) k) ?_
    refine Goes.st (U' := T28.setTop (mkF m 58 #[.val (.ref a1), .val (.int (1 : Int32)), .val (.int p3), .val (.int (4 : Int32))] [(.int (p3 >>> ((16 : Int32) &&& 31))), (.int (6 : Int32)), (.ref arr)])) (fun t k => XS.ishr X28.here hx rfl (hb hby d5_57) rfl k) ?_
    refine Goes.st (U' := T28.setTop (mkF m 59 #[.val (.ref a1), .val (.int (1 : Int32)), .val (.int p3), .val (.int (4 : Int32))] [(.int ((p3 >>> ((16 : Int32) &&& 31)).toInt8.toInt32)), (.int (6 : Int32)), (.ref arr)])) (fun t k => XS.i2b X28.here hx rfl (hb hby d5_58) rfl k) ?_
    have Vx29 := V27
    obtain ⟨cl29, Ar29, qa29, S29, Nn29, H29, G29⟩ := Vx29
    have hin29 : ¬ ((6 : Int32) < 0 ∨ cl29.slots.size ≤ ((6 : Int32)).toNatClampNeg) := inb_of S29 ⟨by decide, by decide⟩
    obtain ⟨T29, h29, X29, e29, W29, st29⟩ := stB X28 hx hZ e28 Ar29 (j := (6 : Int32)) hin29 (g := (mkF m 59 #[.val (.ref a1), .val (.int (1 : Int32)), .val (.int p3), .val (.int (4 : Int32))] [(.int ((p3 >>> ((16 : Int32) &&& 31)).toInt8.toInt32)), (.int (6 : Int32)), (.ref arr)])) rfl rfl (hb hby d5_59)
    have V29 : Arv Z h29 arr k .byte (12 : Int32) [(.int (own_b0 x0)), (.int (own_b1 x0)), (.int (own_b2 x0)), (.int (own_b3 x0)), (.int ((p3.toInt8.toInt32).toInt8.toInt32)), (.int (((p3 >>> ((8 : Int32) &&& 31)).toInt8.toInt32).toInt8.toInt32)), (.int (((p3 >>> ((16 : Int32) &&& 31)).toInt8.toInt32).toInt8.toInt32)), (.int (own_b3 x1)), (.int (own_b0 x2)), (.int (own_b1 x2)), (.int (own_b2 x2)), (.int (own_b3 x2))] (.int (0 : Int32)) := Arv.set Ar29 qa29 S29 Nn29 H29 G29 (fits_nar_byte _) W29 6 rfl (Nat.le_of_ble_eq_true rfl)
    have N29 := Fr.snoc X29 N27 g_arr
    refine Goes.st (U' := T29.setTop (mkF m 60 #[.val (.ref a1), .val (.int (1 : Int32)), .val (.int p3), .val (.int (4 : Int32))] [])) (fun t k => st29 t k) ?_
    refine Goes.st (U' := T29.setTop (mkF m 61 #[.val (.ref a1), .val (.int (1 : Int32)), .val (.int p3), .val (.int (4 : Int32))] [(.ref a1)])) (fun t k => XS.aloadN X29.here hx rfl (hb hby d5_60) rfl rfl k) ?_
    obtain ⟨T30, X30, e30, st30⟩ := getF X29 hx hZ hown (host := "") (Or.inl (hw _ (List.mem_of_getElem? (i := 18) rfl))) Via.refl e29 (((F_width_a1.other W25 (Or.inl ne_a1_arr)).other W27 (Or.inl ne_a1_arr)).other W29 (Or.inl ne_a1_arr)) (g := (mkF m 61 #[.val (.ref a1), .val (.int (1 : Int32)), .val (.int p3), .val (.int (4 : Int32))] [(.ref a1)])) rfl rfl (hb hby d5_61)
    refine Goes.st (U' := T30.setTop (mkF m 64 #[.val (.ref a1), .val (.int (1 : Int32)), .val (.int p3), .val (.int (4 : Int32))] [(.int (4 : Int32))])) (fun t k => st30 t k) ?_
    refine Goes.st (U' := T30.setTop (mkF m 65 #[.val (.ref a1), .val (.int (1 : Int32)), .val (.int p3), .val (.int (4 : Int32))] [(.int (4 : Int32)), (.int (4 : Int32))])) (fun t k => XS.iconst X30.here hx rfl (hb hby d5_64) k) ?_
    refine Goes.st (U' := T30.setTop (mkF m 68 #[.val (.ref a1), .val (.int (1 : Int32)), .val (.int p3), .val (.int (4 : Int32))] [])) (fun t k => XS.icmpNo X30.here hx rfl (hb hby d5_65) rfl (teq (rfl : (4 : Int32) = (4 : Int32))).2 k) ?_
    refine Goes.st (U' := T30.setTop (mkF m 69 #[.val (.ref a1), .val (.int (1 : Int32)), .val (.int p3), .val (.int (4 : Int32))] [(.ref a1)])) (fun t k => XS.aloadN X30.here hx rfl (hb hby d5_68) rfl rfl k) ?_
    obtain ⟨T31, X31, e31, st31⟩ := getF X30 hx hZ hown (host := "") (Or.inl (hw _ (List.mem_of_getElem? (i := 16) rfl))) Via.refl e30 (((F_bytes_a1.other W25 (Or.inl ne_a1_arr)).other W27 (Or.inl ne_a1_arr)).other W29 (Or.inl ne_a1_arr)) (g := (mkF m 69 #[.val (.ref a1), .val (.int (1 : Int32)), .val (.int p3), .val (.int (4 : Int32))] [(.ref a1)])) rfl rfl (hb hby d5_69)
    refine Goes.st (U' := T31.setTop (mkF m 72 #[.val (.ref a1), .val (.int (1 : Int32)), .val (.int p3), .val (.int (4 : Int32))] [(.ref arr)])) (fun t k => st31 t k) ?_
    refine Goes.st (U' := T31.setTop (mkF m 73 #[.val (.ref a1), .val (.int (1 : Int32)), .val (.int p3), .val (.int (4 : Int32))] [(.int (4 : Int32)), (.ref arr)])) (fun t k => XS.iloadN X31.here hx rfl (hb hby d5_72) rfl k) ?_
    refine Goes.st (U' := T31.setTop (mkF m 74 #[.val (.ref a1), .val (.int (1 : Int32)), .val (.int p3), .val (.int (4 : Int32))] [(.int (3 : Int32)), (.int (4 : Int32)), (.ref arr)])) (fun t k => XS.iconst X31.here hx rfl (hb hby d5_73) k) ?_
    refine Goes.st (U' := T31.setTop (mkF m 75 #[.val (.ref a1), .val (.int (1 : Int32)), .val (.int p3), .val (.int (4 : Int32))] [(.int (7 : Int32)), (.ref arr)])) (fun t k => XS.iadd X31.here hx rfl (hb hby d5_74) rfl k) ?_
    refine Goes.st (U' := T31.setTop (mkF m 76 #[.val (.ref a1), .val (.int (1 : Int32)), .val (.int p3), .val (.int (4 : Int32))] [(.int p3), (.int (7 : Int32)), (.ref arr)])) (fun t k => XS.iloadN X31.here hx rfl (hb hby d5_75) rfl k) ?_
    refine Goes.st (U' := T31.setTop (mkF m 78 #[.val (.ref a1), .val (.int (1 : Int32)), .val (.int p3), .val (.int (4 : Int32))] [(.int (24 : Int32)), (.int p3), (.int (7 : Int32)), (.ref arr)])) (fun t k => XS.bipush X31.here hx rfl (hb hby d5_76) k) ?_
    refine Goes.st (U' := T31.setTop (mkF m 79 #[.val (.ref a1), .val (.int (1 : Int32)), .val (.int p3), .val (.int (4 : Int32))] [(.int (p3 >>> ((24 : Int32) &&& 31))), (.int (7 : Int32)), (.ref arr)])) (fun t k => XS.ishr X31.here hx rfl (hb hby d5_78) rfl k) ?_
    refine Goes.st (U' := T31.setTop (mkF m 80 #[.val (.ref a1), .val (.int (1 : Int32)), .val (.int p3), .val (.int (4 : Int32))] [(.int ((p3 >>> ((24 : Int32) &&& 31)).toInt8.toInt32)), (.int (7 : Int32)), (.ref arr)])) (fun t k => XS.i2b X31.here hx rfl (hb hby d5_79) rfl k) ?_
    have Vx32 := V29
    obtain ⟨cl32, Ar32, qa32, S32, Nn32, H32, G32⟩ := Vx32
    have hin32 : ¬ ((7 : Int32) < 0 ∨ cl32.slots.size ≤ ((7 : Int32)).toNatClampNeg) := inb_of S32 ⟨by decide, by decide⟩
    obtain ⟨T32, h32, X32, e32, W32, st32⟩ := stB X31 hx hZ e31 Ar32 (j := (7 : Int32)) hin32 (g := (mkF m 80 #[.val (.ref a1), .val (.int (1 : Int32)), .val (.int p3), .val (.int (4 : Int32))] [(.int ((p3 >>> ((24 : Int32) &&& 31)).toInt8.toInt32)), (.int (7 : Int32)), (.ref arr)])) rfl rfl (hb hby d5_80)
    have V32 : Arv Z h32 arr k .byte (12 : Int32) [(.int (own_b0 x0)), (.int (own_b1 x0)), (.int (own_b2 x0)), (.int (own_b3 x0)), (.int ((p3.toInt8.toInt32).toInt8.toInt32)), (.int (((p3 >>> ((8 : Int32) &&& 31)).toInt8.toInt32).toInt8.toInt32)), (.int (((p3 >>> ((16 : Int32) &&& 31)).toInt8.toInt32).toInt8.toInt32)), (.int (((p3 >>> ((24 : Int32) &&& 31)).toInt8.toInt32).toInt8.toInt32)), (.int (own_b0 x2)), (.int (own_b1 x2)), (.int (own_b2 x2)), (.int (own_b3 x2))] (.int (0 : Int32)) := Arv.set Ar32 qa32 S32 Nn32 H32 G32 (fits_nar_byte _) W32 7 rfl (Nat.le_of_ble_eq_true rfl)
    have N32 := Fr.snoc X32 N29 g_arr
    refine Goes.st (U' := T32.setTop (mkF m 81 #[.val (.ref a1), .val (.int (1 : Int32)), .val (.int p3), .val (.int (4 : Int32))] [])) (fun t k => st32 t k) ?_
    refine Goes.retV X32 hx (BodyLoose.notSynchronized Bd) Bd.returns (hb hby d5_81) (by decide) (by decide) ?_
    show Q_rmS1 Z a1 (1 : Int32) p3 x0 x1 x2 h0 n0 _ T32.heap _
    rw [e32]
    exact ⟨rfl, N32, (Nat.le_trans (Nat.le_trans (Nat.le_trans (Nat.le_trans Z0 (Nat.le_of_eq W25.size.symm)) (Nat.le_of_eq W27.size.symm)) (Nat.le_of_eq W29.size.symm)) (Nat.le_of_eq W32.size.symm)), Or.inr ⟨arr, k, ⟨((((E_a1.wr W25).wr W27).wr W29).wr W32), ((((F_length_a1.other W25 (Or.inl ne_a1_arr)).other W27 (Or.inl ne_a1_arr)).other W29 (Or.inl ne_a1_arr)).other W32 (Or.inl ne_a1_arr)), ((((F_bytes_a1.other W25 (Or.inl ne_a1_arr)).other W27 (Or.inl ne_a1_arr)).other W29 (Or.inl ne_a1_arr)).other W32 (Or.inl ne_a1_arr)), ((((F_width_a1.other W25 (Or.inl ne_a1_arr)).other W27 (Or.inl ne_a1_arr)).other W29 (Or.inl ne_a1_arr)).other W32 (Or.inl ne_a1_arr)), V32, ne_a1_arr⟩, g_arr⟩⟩
theorem ef_rmS2 (m : MethodId) (a1 : Addr) (p2 : Int32) (p3 : Int32) : entryFrame m #[(.ref a1), (.int p2), (.int p3)] 4 = mkF m 0 #[.val (.ref a1), .val (.int p2), .val (.int p3), .unset] [] := by first | (simp [entryFrame, mkF, argsToLocals, Value.category]; done) | rfl
def Q_rmS2 (Z : State) (a1 : Addr) (p2 : Int32) (p3 : Int32) (x0 : Int32) (x1 : Int32) (x2 : Int32) (h0 : Heap) (n0 : Nat) (v : Option Value) (h : Heap) (L : List Loc) : Prop := v = none ∧ Fr n0 L ∧ n0 ≤ h.size ∧ PI Z h a1 n0 x0 x1 p3
set_option maxRecDepth 65536 in
set_option maxHeartbeats 40000000 in
theorem rmS2 (l : Launch) (Z : State) (a0 : Array Value) (hw : ∀ d ∈ tables_1, d.before a0 Z = true) (ws : List Jvm.Cond) (a1 : Addr) (p2 : Int32) (p3 : Int32) (x0 : Int32) (x1 : Int32) (x2 : Int32) (h0 : Heap) (n0 : Nat) (Z0 : n0 ≤ h0.size) (I : PI Z h0 a1 n0 x0 x1 x2) (e2 : p2 = (2 : Int32)) (g_a1 : n0 ≤ a1) :
    MetFree l (⟨"com/example/chaise/chaise/core/PackedInts", "set", "(II)V"⟩ : MethodName) (head1 (Jvm.Cond.code (⟨"com/example/chaise/chaise/core/PackedInts", "set", "(II)V"⟩ : MethodName) prog_81_method_6_code 4 none :: ws) ({ frames := 3, cells := 2, slots := 15, locals := 43 } : Room)) (fun a U => a = #[(.ref a1), (.int p2), (.int p3)] ∧ Z.Warmed39 U.vm ∧ U.heap = h0) (fun _ _ _ _ _ => True) (fun _ U o U' => ∃ v L, o = .returned v ∧ Q_rmS2 Z a1 (2 : Int32) p3 x0 x1 x2 h0 n0 v U'.heap L ∧ FrameEnd U o U' L ({ frames := 3, cells := 2, slots := 15, locals := 43 } : Room).cells ({ frames := 3, cells := 2, slots := 15, locals := 43 } : Room).slots) := by
  refine MetFree.of_bodySF (plainFor_of_name pn_0) hisR ?_
  intro p e s m args below meth c s₁ Bd hml0 hP hK
  obtain ⟨rfl, hZ, hh⟩ := hP
  have hx := Bd.exec
  have hby := Bd.bytes
  have hml : c.maxLocals = 4 := hml0
  have hown : s.vm.findClass "com/example/chaise/chaise/core/PackedInts" = some m.cls := findClass_of_methodNamed Bd.named
  have hnm := (name_of_methodNamed Bd.named Bd.method).1
  have X0 : Stand p l e ({ frames := 3, cells := 2, slots := 15, locals := 43 } : Room) s m #[(.ref a1), (.int p2), (.int p3)] below meth c s₁ [] 0 0 := Stand.of_body Bd
  have e0 : s₁.heap = h0 := by rw [← hh, Bd.state]; rfl
  have N0 := Fr.nil n0
  show Goes p e s below (fun v h L => Q_rmS2 Z a1 (2 : Int32) p3 x0 x1 x2 h0 n0 v h L) ({ frames := 3, cells := 2, slots := 15, locals := 43 } : Room).cells ({ frames := 3, cells := 2, slots := 15, locals := 43 } : Room).slots (s₁.setTop (entryFrame m #[(.ref a1), (.int p2), (.int p3)] 4))
  refine Goes.st (U' := s₁.setTop (mkF m 0 #[.val (.ref a1), .val (.int p2), .val (.int p3), .unset] [])) (fun t k => castTop (ef_rmS2 m a1 p2 p3) k) ?_
  subst e2
  rcases I with ⟨arr, k, P, g_arr⟩ | ⟨arr, k, P, g_arr⟩
  · have Pc := P
    obtain ⟨E_a1, F_length_a1, F_bytes_a1, F_width_a1, V_arr, ne_a1_arr, hf0_a1, hf1_a1, hf2_a1⟩ := P
    refine Goes.st (U' := s₁.setTop (mkF m 1 #[.val (.ref a1), .val (.int (2 : Int32)), .val (.int p3), .unset] [(.ref a1)])) (fun t k => XS.aloadN X0.here hx rfl (hb hby d5_0) rfl rfl k) ?_
    obtain ⟨T1, X1, e1, st1⟩ := getF X0 hx hZ hown (host := "") (Or.inl (hw _ (List.mem_of_getElem? (i := 18) rfl))) Via.refl e0 F_width_a1 (g := (mkF m 1 #[.val (.ref a1), .val (.int (2 : Int32)), .val (.int p3), .unset] [(.ref a1)])) rfl rfl (hb hby d5_1)
    refine Goes.st (U' := T1.setTop (mkF m 4 #[.val (.ref a1), .val (.int (2 : Int32)), .val (.int p3), .unset] [(.int (3 : Int32))])) (fun t k => st1 t k) ?_
    refine Goes.st (U' := T1.setTop (mkF m 5 #[.val (.ref a1), .val (.int (2 : Int32)), .val (.int p3), .unset] [(.int (3 : Int32)), (.int (3 : Int32))])) (fun t k => XS.iconst X1.here hx rfl (hb hby d5_4) k) ?_
    refine Goes.st (U' := T1.setTop (mkF m 8 #[.val (.ref a1), .val (.int (2 : Int32)), .val (.int p3), .unset] [])) (fun t k => XS.icmpNo X1.here hx rfl (hb hby d5_5) rfl (teq (rfl : (3 : Int32) = (3 : Int32))).2 k) ?_
    refine Goes.st (U' := T1.setTop (mkF m 9 #[.val (.ref a1), .val (.int (2 : Int32)), .val (.int p3), .unset] [(.int p3)])) (fun t k => XS.iloadN X1.here hx rfl (hb hby d5_8) rfl k) ?_
    obtain ⟨_, _, ⟨T2, L2, k2, n2⟩, -, X2, ⟨Lc2, hQ2, l2, y2, z2⟩, st2⟩ := Jvm.LawKit.callS X1 hx (y := (⟨"com/example/chaise/chaise/core/PackedInts", "fits", "(I)Z"⟩ : MethodName)) hown (mvT hZ (hw _ (List.mem_of_getElem? (i := 31) rfl))) (mvT hZ (hw _ (List.mem_of_getElem? (i := 32) rfl))) (mvT hZ (hw _ (List.mem_of_getElem? (i := 2) rfl))) (mvT hZ (hw _ (List.mem_of_getElem? (i := 33) rfl))) (by decide) (backOf (W := 0) (rm6 l Z a0 hw [] p3 h0 n0 Z0) hZ (hw _ (List.mem_of_getElem? (i := 33) rfl)) (hw _ (List.mem_of_getElem? (i := 2) rfl)) (by decide) (by decide)) (g := (mkF m 9 #[.val (.ref a1), .val (.int (2 : Int32)), .val (.int p3), .unset] [(.int p3)])) rfl (by rw [hml]; rfl) (argsL := [(.int p3)]) (rest := []) (lenOf pd_2 rfl) rfl (by show 2 * 0 + _ ≤ _; exact Nat.le_of_eq rfl) (hb hby d5_9) (fun _ _ => ⟨rfl, e1, (by decide : 0 + 0 ≤ _), (by decide : 0 + 0 ≤ _)⟩)
    dsimp only [Pt.U, Pt.locs, Pt.cells, Pt.slots] at X2 l2 y2 z2 st2 hQ2
    subst l2 y2 z2
    obtain ⟨rfl, N2q, e2⟩ := hQ2
    have N2 := Fr.app N0 N2q
    refine Goes.st (U' := T2.setTop (mkF m 12 #[.val (.ref a1), .val (.int (2 : Int32)), .val (.int p3), .unset] [(.int (fnfits p3))])) st2 ?_
    rcases Decidable.em ((fnfits p3) = (0 : Int32)) with hc12 | hc12
    · refine Goes.st (U' := T2.setTop (mkF m 15 #[.val (.ref a1), .val (.int (2 : Int32)), .val (.int p3), .unset] [])) (fun t k => XS.ifNo X2.here hx rfl (hb hby d5_12) rfl ((if0 _ _).trans (teq hc12).2) k) ?_
      refine Goes.st (U' := T2.setTop (mkF m 16 #[.val (.ref a1), .val (.int (2 : Int32)), .val (.int p3), .unset] [(.ref a1)])) (fun t k => XS.aloadN X2.here hx rfl (hb hby d5_15) rfl rfl k) ?_
      obtain ⟨cqz3, hqz3, hqz3'⟩ := E_a1.cell
      obtain ⟨_, _, ⟨T3, L3, k3, n3⟩, -, X3, ⟨Lc3, hQ3, l3, y3, z3⟩, st3⟩ := X2.privateBack hx (y := (⟨"com/example/chaise/chaise/core/PackedInts", "widen", "()V"⟩ : MethodName)) hown (mvT hZ (hw _ (List.mem_of_getElem? (i := 36) rfl))) (mvT hZ (hw _ (List.mem_of_getElem? (i := 37) rfl))) (own_selp (mvT hZ (hw _ (List.mem_of_getElem? (i := 1) rfl))) (Cond.privateMethod_at (mvP hZ (hw _ (List.mem_of_getElem? (i := 38) rfl)) (args := #[]))) (mvT hZ (hw _ (List.mem_of_getElem? (i := 37) rfl))) (by decide)) (Cond.privateMethod_at (mvP hZ (hw _ (List.mem_of_getElem? (i := 38) rfl)) (args := #[]))) (mvT hZ (hw _ (List.mem_of_getElem? (i := 39) rfl))) (by decide) (backOf (W := 0) (rm7 l Z a0 hw [] a1 arr k x0 x1 x2 h0 n0 Z0 (Pc) (g_a1) (g_arr)) hZ (hw _ (List.mem_of_getElem? (i := 39) rfl)) (hw _ (List.mem_of_getElem? (i := 2) rfl)) (by decide) (by decide)) (g := (mkF m 16 #[.val (.ref a1), .val (.int (2 : Int32)), .val (.int p3), .unset] [(.ref a1)])) rfl (by rw [hml]; rfl) (Steps.refl _) (a := a1) (by rw [e2]; exact hqz3) hqz3' (argsL := []) (rest := []) (lenOf pd_3 rfl) rfl (by show 2 * 0 + _ ≤ _; exact Nat.le_of_eq rfl) (hb hby d5_16) (fun _ _ => ⟨rfl, e2, (by decide : 0 + 2 ≤ _), (by decide : 0 + 15 ≤ _)⟩)
      dsimp only [Pt.U, Pt.locs, Pt.cells, Pt.slots] at X3 l3 y3 z3 st3 hQ3
      subst l3 y3 z3
      obtain ⟨rfl, N3q, Z3, ar3, ka3, I3, g_ar3⟩ := hQ3
      have N3 := Fr.app N2 N3q
      obtain ⟨E_a1, F_length_a1, F_bytes_a1, F_width_a1, V_ar3, ne_a1_ar3⟩ := I3
      refine Goes.tr (U' := T3.setTop (mkF m 19 #[.val (.ref a1), .val (.int (2 : Int32)), .val (.int p3), .unset] [])) st3 ?_
      refine Goes.st (U' := T3.setTop (mkF m 20 #[.val (.ref a1), .val (.int (2 : Int32)), .val (.int p3), .unset] [(.int (2 : Int32))])) (fun t k => XS.iloadN X3.here hx rfl (hb hby d5_19) rfl k) ?_
      refine Goes.st (U' := T3.setTop (mkF m 21 #[.val (.ref a1), .val (.int (2 : Int32)), .val (.int p3), .unset] [(.ref a1), (.int (2 : Int32))])) (fun t k => XS.aloadN X3.here hx rfl (hb hby d5_20) rfl rfl k) ?_
      obtain ⟨T4, X4, e4, st4⟩ := getF X3 hx hZ hown (host := "") (Or.inl (hw _ (List.mem_of_getElem? (i := 18) rfl))) Via.refl rfl F_width_a1 (g := (mkF m 21 #[.val (.ref a1), .val (.int (2 : Int32)), .val (.int p3), .unset] [(.ref a1), (.int (2 : Int32))])) rfl rfl (hb hby d5_21)
      refine Goes.st (U' := T4.setTop (mkF m 24 #[.val (.ref a1), .val (.int (2 : Int32)), .val (.int p3), .unset] [(.int (4 : Int32)), (.int (2 : Int32))])) (fun t k => st4 t k) ?_
      refine Goes.st (U' := T4.setTop (mkF m 25 #[.val (.ref a1), .val (.int (2 : Int32)), .val (.int p3), .unset] [(.int (8 : Int32))])) (fun t k => XS.imul X4.here hx rfl (hb hby d5_24) rfl k) ?_
      refine Goes.st (U' := T4.setTop (mkF m 26 #[.val (.ref a1), .val (.int (2 : Int32)), .val (.int p3), .val (.int (8 : Int32))] [])) (fun t k => XS.istoreN X4.here hx rfl (hb hby d5_25) rfl (l' := #[.val (.ref a1), .val (.int (2 : Int32)), .val (.int p3), .val (.int (8 : Int32))]) rfl k) ?_
      refine Goes.st (U' := T4.setTop (mkF m 27 #[.val (.ref a1), .val (.int (2 : Int32)), .val (.int p3), .val (.int (8 : Int32))] [(.ref a1)])) (fun t k => XS.aloadN X4.here hx rfl (hb hby d5_26) rfl rfl k) ?_
      obtain ⟨T5, X5, e5, st5⟩ := getF X4 hx hZ hown (host := "") (Or.inl (hw _ (List.mem_of_getElem? (i := 16) rfl))) Via.refl e4 F_bytes_a1 (g := (mkF m 27 #[.val (.ref a1), .val (.int (2 : Int32)), .val (.int p3), .val (.int (8 : Int32))] [(.ref a1)])) rfl rfl (hb hby d5_27)
      refine Goes.st (U' := T5.setTop (mkF m 30 #[.val (.ref a1), .val (.int (2 : Int32)), .val (.int p3), .val (.int (8 : Int32))] [(.ref ar3)])) (fun t k => st5 t k) ?_
      refine Goes.st (U' := T5.setTop (mkF m 31 #[.val (.ref a1), .val (.int (2 : Int32)), .val (.int p3), .val (.int (8 : Int32))] [(.int (8 : Int32)), (.ref ar3)])) (fun t k => XS.iloadN X5.here hx rfl (hb hby d5_30) rfl k) ?_
      refine Goes.st (U' := T5.setTop (mkF m 32 #[.val (.ref a1), .val (.int (2 : Int32)), .val (.int p3), .val (.int (8 : Int32))] [(.int p3), (.int (8 : Int32)), (.ref ar3)])) (fun t k => XS.iloadN X5.here hx rfl (hb hby d5_31) rfl k) ?_
      refine Goes.st (U' := T5.setTop (mkF m 33 #[.val (.ref a1), .val (.int (2 : Int32)), .val (.int p3), .val (.int (8 : Int32))] [(.int (p3.toInt8.toInt32)), (.int (8 : Int32)), (.ref ar3)])) (fun t k => XS.i2b X5.here hx rfl (hb hby d5_32) rfl k) ?_
      have Vx6 := V_ar3
      obtain ⟨cl6, Ar6, qa6, S6, Nn6, H6, G6⟩ := Vx6
      have hin6 : ¬ ((8 : Int32) < 0 ∨ cl6.slots.size ≤ ((8 : Int32)).toNatClampNeg) := inb_of S6 ⟨by decide, by decide⟩
      obtain ⟨T6, h6, X6, e6, W6, st6⟩ := stB X5 hx hZ e5 Ar6 (j := (8 : Int32)) hin6 (g := (mkF m 33 #[.val (.ref a1), .val (.int (2 : Int32)), .val (.int p3), .val (.int (8 : Int32))] [(.int (p3.toInt8.toInt32)), (.int (8 : Int32)), (.ref ar3)])) rfl rfl (hb hby d5_33)
      have V6 : Arv Z h6 ar3 ka3 .byte (12 : Int32) [(.int (own_b0 x0)), (.int (own_b1 x0)), (.int (own_b2 x0)), (.int (own_b3 x0)), (.int (own_b0 x1)), (.int (own_b1 x1)), (.int (own_b2 x1)), (.int (own_b3 x1)), (.int ((p3.toInt8.toInt32).toInt8.toInt32)), (.int (own_b1 x2)), (.int (own_b2 x2)), (.int (own_b3 x2))] (.int (0 : Int32)) := Arv.set Ar6 qa6 S6 Nn6 H6 G6 (fits_nar_byte _) W6 8 rfl (Nat.le_of_ble_eq_true rfl)
      have N6 := Fr.snoc X6 N3 g_ar3
      refine Goes.st (U' := T6.setTop (mkF m 34 #[.val (.ref a1), .val (.int (2 : Int32)), .val (.int p3), .val (.int (8 : Int32))] [])) (fun t k => st6 t k) ?_
      refine Goes.st (U' := T6.setTop (mkF m 35 #[.val (.ref a1), .val (.int (2 : Int32)), .val (.int p3), .val (.int (8 : Int32))] [(.ref a1)])) (fun t k => XS.aloadN X6.here hx rfl (hb hby d5_34) rfl rfl k) ?_
      obtain ⟨T7, X7, e7, st7⟩ := getF X6 hx hZ hown (host := "") (Or.inl (hw _ (List.mem_of_getElem? (i := 16) rfl))) Via.refl e6 (F_bytes_a1.other W6 (Or.inl ne_a1_ar3)) (g := (mkF m 35 #[.val (.ref a1), .val (.int (2 : Int32)), .val (.int p3), .val (.int (8 : Int32))] [(.ref a1)])) rfl rfl (hb hby d5_35)
      refine Goes.st (U' := T7.setTop (mkF m 38 #[.val (.ref a1), .val (.int (2 : Int32)), .val (.int p3), .val (.int (8 : Int32))] [(.ref ar3)])) (fun t k => st7 t k) ?_
      refine Goes.st (U' := T7.setTop (mkF m 39 #[.val (.ref a1), .val (.int (2 : Int32)), .val (.int p3), .val (.int (8 : Int32))] [(.int (8 : Int32)), (.ref ar3)])) (fun t k => XS.iloadN X7.here hx rfl (hb hby d5_38) rfl k) ?_
      refine Goes.st (U' := T7.setTop (mkF m 40 #[.val (.ref a1), .val (.int (2 : Int32)), .val (.int p3), .val (.int (8 : Int32))] [(.int (1 : Int32)), (.int (8 : Int32)), (.ref ar3)])) (fun t k => XS.iconst X7.here hx rfl (hb hby d5_39) k) ?_
      refine Goes.st (U' := T7.setTop (mkF m 41 #[.val (.ref a1), .val (.int (2 : Int32)), .val (.int p3), .val (.int (8 : Int32))] [(.int (9 : Int32)), (.ref ar3)])) (fun t k => XS.iadd X7.here hx rfl (hb hby d5_40) rfl k) ?_
      refine Goes.st (U' := T7.setTop (mkF m 42 #[.val (.ref a1), .val (.int (2 : Int32)), .val (.int p3), .val (.int (8 : Int32))] [(.int p3), (.int (9 : Int32)), (.ref ar3)])) (fun t k => XS.iloadN X7.here hx rfl (hb hby d5_41) rfl k) ?_
      refine Goes.st (U' := T7.setTop (mkF m 44 #[.val (.ref a1), .val (.int (2 : Int32)), .val (.int p3), .val (.int (8 : Int32))] [(.int (8 : Int32)), (.int p3), (.int (9 : Int32)), (.ref ar3)])) (fun t k => XS.bipush X7.here hx rfl (hb hby d5_42) k) ?_
      refine Goes.st (U' := T7.setTop (mkF m 45 #[.val (.ref a1), .val (.int (2 : Int32)), .val (.int p3), .val (.int (8 : Int32))] [(.int (p3 >>> ((8 : Int32) &&& 31))), (.int (9 : Int32)), (.ref ar3)])) (fun t k => XS.ishr X7.here hx rfl (hb hby d5_44) rfl k) ?_
      refine Goes.st (U' := T7.setTop (mkF m 46 #[.val (.ref a1), .val (.int (2 : Int32)), .val (.int p3), .val (.int (8 : Int32))] [(.int ((p3 >>> ((8 : Int32) &&& 31)).toInt8.toInt32)), (.int (9 : Int32)), (.ref ar3)])) (fun t k => XS.i2b X7.here hx rfl (hb hby d5_45) rfl k) ?_
      have Vx8 := V6
      obtain ⟨cl8, Ar8, qa8, S8, Nn8, H8, G8⟩ := Vx8
      have hin8 : ¬ ((9 : Int32) < 0 ∨ cl8.slots.size ≤ ((9 : Int32)).toNatClampNeg) := inb_of S8 ⟨by decide, by decide⟩
      obtain ⟨T8, h8, X8, e8, W8, st8⟩ := stB X7 hx hZ e7 Ar8 (j := (9 : Int32)) hin8 (g := (mkF m 46 #[.val (.ref a1), .val (.int (2 : Int32)), .val (.int p3), .val (.int (8 : Int32))] [(.int ((p3 >>> ((8 : Int32) &&& 31)).toInt8.toInt32)), (.int (9 : Int32)), (.ref ar3)])) rfl rfl (hb hby d5_46)
      have V8 : Arv Z h8 ar3 ka3 .byte (12 : Int32) [(.int (own_b0 x0)), (.int (own_b1 x0)), (.int (own_b2 x0)), (.int (own_b3 x0)), (.int (own_b0 x1)), (.int (own_b1 x1)), (.int (own_b2 x1)), (.int (own_b3 x1)), (.int ((p3.toInt8.toInt32).toInt8.toInt32)), (.int (((p3 >>> ((8 : Int32) &&& 31)).toInt8.toInt32).toInt8.toInt32)), (.int (own_b2 x2)), (.int (own_b3 x2))] (.int (0 : Int32)) := Arv.set Ar8 qa8 S8 Nn8 H8 G8 (fits_nar_byte _) W8 9 rfl (Nat.le_of_ble_eq_true rfl)
      have N8 := Fr.snoc X8 N6 g_ar3
      refine Goes.st (U' := T8.setTop (mkF m 47 #[.val (.ref a1), .val (.int (2 : Int32)), .val (.int p3), .val (.int (8 : Int32))] [])) (fun t k => st8 t k) ?_
      refine Goes.st (U' := T8.setTop (mkF m 48 #[.val (.ref a1), .val (.int (2 : Int32)), .val (.int p3), .val (.int (8 : Int32))] [(.ref a1)])) (fun t k => XS.aloadN X8.here hx rfl (hb hby d5_47) rfl rfl k) ?_
      obtain ⟨T9, X9, e9, st9⟩ := getF X8 hx hZ hown (host := "") (Or.inl (hw _ (List.mem_of_getElem? (i := 16) rfl))) Via.refl e8 ((F_bytes_a1.other W6 (Or.inl ne_a1_ar3)).other W8 (Or.inl ne_a1_ar3)) (g := (mkF m 48 #[.val (.ref a1), .val (.int (2 : Int32)), .val (.int p3), .val (.int (8 : Int32))] [(.ref a1)])) rfl rfl (hb hby d5_48)
      refine Goes.st (U' := T9.setTop (mkF m 51 #[.val (.ref a1), .val (.int (2 : Int32)), .val (.int p3), .val (.int (8 : Int32))] [(.ref ar3)])) (fun t k => st9 t k) ?_
      refine Goes.st (U' := T9.setTop (mkF m 52 #[.val (.ref a1), .val (.int (2 : Int32)), .val (.int p3), .val (.int (8 : Int32))] [(.int (8 : Int32)), (.ref ar3)])) (fun t k => XS.iloadN X9.here hx rfl (hb hby d5_51) rfl k) ?_
      refine Goes.st (U' := T9.setTop (mkF m 53 #[.val (.ref a1), .val (.int (2 : Int32)), .val (.int p3), .val (.int (8 : Int32))] [(.int (2 : Int32)), (.int (8 : Int32)), (.ref ar3)])) (fun t k => XS.iconst X9.here hx rfl (hb hby d5_52) k) ?_
      refine Goes.st (U' := T9.setTop (mkF m 54 #[.val (.ref a1), .val (.int (2 : Int32)), .val (.int p3), .val (.int (8 : Int32))] [(.int (10 : Int32)), (.ref ar3)])) (fun t k => XS.iadd X9.here hx rfl (hb hby d5_53) rfl k) ?_
      refine Goes.st (U' := T9.setTop (mkF m 55 #[.val (.ref a1), .val (.int (2 : Int32)), .val (.int p3), .val (.int (8 : Int32))] [(.int p3), (.int (10 : Int32)), (.ref ar3)])) (fun t k => XS.iloadN X9.here hx rfl (hb hby d5_54) rfl k) ?_
      refine Goes.st (U' := T9.setTop (mkF m 57 #[.val (.ref a1), .val (.int (2 : Int32)), .val (.int p3), .val (.int (8 : Int32))] [(.int (16 : Int32)), (.int p3), (.int (10 : Int32)), (.ref ar3)])) (fun t k => XS.bipush X9.here hx rfl (hb hby d5_55) k) ?_
      refine Goes.st (U' := T9.setTop (mkF m 58 #[.val (.ref a1), .val (.int (2 : Int32)), .val (.int p3), .val (.int (8 : Int32))] [(.int (p3 >>> ((16 : Int32) &&& 31))), (.int (10 : Int32)), (.ref ar3)])) (fun t k => XS.ishr X9.here hx rfl (hb hby d5_57) rfl k) ?_
      refine Goes.st (U' := T9.setTop (mkF m 59 #[.val (.ref a1), .val (.int (2 : Int32)), .val (.int p3), .val (.int (8 : Int32))] [(.int ((p3 >>> ((16 : Int32) &&& 31)).toInt8.toInt32)), (.int (10 : Int32)), (.ref ar3)])) (fun t k => XS.i2b X9.here hx rfl (hb hby d5_58) rfl k) ?_
      have Vx10 := V8
      obtain ⟨cl10, Ar10, qa10, S10, Nn10, H10, G10⟩ := Vx10
      have hin10 : ¬ ((10 : Int32) < 0 ∨ cl10.slots.size ≤ ((10 : Int32)).toNatClampNeg) := inb_of S10 ⟨by decide, by decide⟩
      obtain ⟨T10, h10, X10, e10, W10, st10⟩ := stB X9 hx hZ e9 Ar10 (j := (10 : Int32)) hin10 (g := (mkF m 59 #[.val (.ref a1), .val (.int (2 : Int32)), .val (.int p3), .val (.int (8 : Int32))] [(.int ((p3 >>> ((16 : Int32) &&& 31)).toInt8.toInt32)), (.int (10 : Int32)), (.ref ar3)])) rfl rfl (hb hby d5_59)
      have V10 : Arv Z h10 ar3 ka3 .byte (12 : Int32) [(.int (own_b0 x0)), (.int (own_b1 x0)), (.int (own_b2 x0)), (.int (own_b3 x0)), (.int (own_b0 x1)), (.int (own_b1 x1)), (.int (own_b2 x1)), (.int (own_b3 x1)), (.int ((p3.toInt8.toInt32).toInt8.toInt32)), (.int (((p3 >>> ((8 : Int32) &&& 31)).toInt8.toInt32).toInt8.toInt32)), (.int (((p3 >>> ((16 : Int32) &&& 31)).toInt8.toInt32).toInt8.toInt32)), (.int (own_b3 x2))] (.int (0 : Int32)) := Arv.set Ar10 qa10 S10 Nn10 H10 G10 (fits_nar_byte _) W10 10 rfl (Nat.le_of_ble_eq_true rfl)
      have N10 := Fr.snoc X10 N8 g_ar3
      refine Goes.st (U' := T10.setTop (mkF m 60 #[.val (.ref a1), .val (.int (2 : Int32)), .val (.int p3), .val (.int (8 : Int32))] [])) (fun t k => st10 t k) ?_
      refine Goes.st (U' := T10.setTop (mkF m 61 #[.val (.ref a1), .val (.int (2 : Int32)), .val (.int p3), .val (.int (8 : Int32))] [(.ref a1)])) (fun t k => XS.aloadN X10.here hx rfl (hb hby d5_60) rfl rfl k) ?_
      obtain ⟨T11, X11, e11, st11⟩ := getF X10 hx hZ hown (host := "") (Or.inl (hw _ (List.mem_of_getElem? (i := 18) rfl))) Via.refl e10 (((F_width_a1.other W6 (Or.inl ne_a1_ar3)).other W8 (Or.inl ne_a1_ar3)).other W10 (Or.inl ne_a1_ar3)) (g := (mkF m 61 #[.val (.ref a1), .val (.int (2 : Int32)), .val (.int p3), .val (.int (8 : Int32))] [(.ref a1)])) rfl rfl (hb hby d5_61)
      refine Goes.st (U' := T11.setTop (mkF m 64 #[.val (.ref a1), .val (.int (2 : Int32)), .val (.int p3), .val (.int (8 : Int32))] [(.int (4 : Int32))])) (fun t k => st11 t k) ?_
      refine Goes.st (U' := T11.setTop (mkF m 65 #[.val (.ref a1), .val (.int (2 : Int32)), .val (.int p3), .val (.int (8 : Int32))] [(.int (4 : Int32)), (.int (4 : Int32))])) (fun t k => XS.iconst X11.here hx rfl (hb hby d5_64) k) ?_
      refine Goes.st (U' := T11.setTop (mkF m 68 #[.val (.ref a1), .val (.int (2 : Int32)), .val (.int p3), .val (.int (8 : Int32))] [])) (fun t k => XS.icmpNo X11.here hx rfl (hb hby d5_65) rfl (teq (rfl : (4 : Int32) = (4 : Int32))).2 k) ?_
      refine Goes.st (U' := T11.setTop (mkF m 69 #[.val (.ref a1), .val (.int (2 : Int32)), .val (.int p3), .val (.int (8 : Int32))] [(.ref a1)])) (fun t k => XS.aloadN X11.here hx rfl (hb hby d5_68) rfl rfl k) ?_
      obtain ⟨T12, X12, e12, st12⟩ := getF X11 hx hZ hown (host := "") (Or.inl (hw _ (List.mem_of_getElem? (i := 16) rfl))) Via.refl e11 (((F_bytes_a1.other W6 (Or.inl ne_a1_ar3)).other W8 (Or.inl ne_a1_ar3)).other W10 (Or.inl ne_a1_ar3)) (g := (mkF m 69 #[.val (.ref a1), .val (.int (2 : Int32)), .val (.int p3), .val (.int (8 : Int32))] [(.ref a1)])) rfl rfl (hb hby d5_69)
      refine Goes.st (U' := T12.setTop (mkF m 72 #[.val (.ref a1), .val (.int (2 : Int32)), .val (.int p3), .val (.int (8 : Int32))] [(.ref ar3)])) (fun t k => st12 t k) ?_
      refine Goes.st (U' := T12.setTop (mkF m 73 #[.val (.ref a1), .val (.int (2 : Int32)), .val (.int p3), .val (.int (8 : Int32))] [(.int (8 : Int32)), (.ref ar3)])) (fun t k => XS.iloadN X12.here hx rfl (hb hby d5_72) rfl k) ?_
      refine Goes.st (U' := T12.setTop (mkF m 74 #[.val (.ref a1), .val (.int (2 : Int32)), .val (.int p3), .val (.int (8 : Int32))] [(.int (3 : Int32)), (.int (8 : Int32)), (.ref ar3)])) (fun t k => XS.iconst X12.here hx rfl (hb hby d5_73) k) ?_
      refine Goes.st (U' := T12.setTop (mkF m 75 #[.val (.ref a1), .val (.int (2 : Int32)), .val (.int p3), .val (.int (8 : Int32))] [(.int (11 : Int32)), (.ref ar3)])) (fun t k => XS.iadd X12.here hx rfl (hb hby d5_74) rfl k) ?_
      refine Goes.st (U' := T12.setTop (mkF m 76 #[.val (.ref a1), .val (.int (2 : Int32)), .val (.int p3), .val (.int (8 : Int32))] [(.int p3), (.int (11 : Int32)), (.ref ar3)])) (fun t k => XS.iloadN X12.here hx rfl (hb hby d5_75) rfl k) ?_
      refine Goes.st (U' := T12.setTop (mkF m 78 #[.val (.ref a1), .val (.int (2 : Int32)), .val (.int p3), .val (.int (8 : Int32))] [(.int (24 : Int32)), (.int p3), (.int (11 : Int32)), (.ref ar3)])) (fun t k => XS.bipush X12.here hx rfl (hb hby d5_76) k) ?_
      refine Goes.st (U' := T12.setTop (mkF m 79 #[.val (.ref a1), .val (.int (2 : Int32)), .val (.int p3), .val (.int (8 : Int32))] [(.int (p3 >>> ((24 : Int32) &&& 31))), (.int (11 : Int32)), (.ref ar3)])) (fun t k => XS.ishr X12.here hx rfl (hb hby d5_78) rfl k) ?_
      refine Goes.st (U' := T12.setTop (mkF m 80 #[.val (.ref a1), .val (.int (2 : Int32)), .val (.int p3), .val (.int (8 : Int32))] [(.int ((p3 >>> ((24 : Int32) &&& 31)).toInt8.toInt32)), (.int (11 : Int32)), (.ref ar3)])) (fun t k => XS.i2b X12.here hx rfl (hb hby d5_79) rfl k) ?_
      have Vx13 := V10
      obtain ⟨cl13, Ar13, qa13, S13, Nn13, H13, G13⟩ := Vx13
      have hin13 : ¬ ((11 : Int32) < 0 ∨ cl13.slots.size ≤ ((11 : Int32)).toNatClampNeg) := inb_of S13 ⟨by decide, by decide⟩
      obtain ⟨T13, h13, X13, e13, W13, st13⟩ := stB X12 hx hZ e12 Ar13 (j := (11 : Int32)) hin13 (g := (mkF m 80 #[.val (.ref a1), .val (.int (2 : Int32)), .val (.int p3), .val (.int (8 : Int32))] [(.int ((p3 >>> ((24 : Int32) &&& 31)).toInt8.toInt32)), (.int (11 : Int32)), (.ref ar3)])) rfl rfl (hb hby d5_80)
      have V13 : Arv Z h13 ar3 ka3 .byte (12 : Int32) [(.int (own_b0 x0)), (.int (own_b1 x0)), (.int (own_b2 x0)), (.int (own_b3 x0)), (.int (own_b0 x1)), (.int (own_b1 x1)), (.int (own_b2 x1)), (.int (own_b3 x1)), (.int ((p3.toInt8.toInt32).toInt8.toInt32)), (.int (((p3 >>> ((8 : Int32) &&& 31)).toInt8.toInt32).toInt8.toInt32)), (.int (((p3 >>> ((16 : Int32) &&& 31)).toInt8.toInt32).toInt8.toInt32)), (.int (((p3 >>> ((24 : Int32) &&& 31)).toInt8.toInt32).toInt8.toInt32))] (.int (0 : Int32)) := Arv.set Ar13 qa13 S13 Nn13 H13 G13 (fits_nar_byte _) W13 11 rfl (Nat.le_of_ble_eq_true rfl)
      have N13 := Fr.snoc X13 N10 g_ar3
      refine Goes.st (U' := T13.setTop (mkF m 81 #[.val (.ref a1), .val (.int (2 : Int32)), .val (.int p3), .val (.int (8 : Int32))] [])) (fun t k => st13 t k) ?_
      refine Goes.retV X13 hx (BodyLoose.notSynchronized Bd) Bd.returns (hb hby d5_81) (by decide) (by decide) ?_
      show Q_rmS2 Z a1 (2 : Int32) p3 x0 x1 x2 h0 n0 _ T13.heap _
      rw [e13]
      exact ⟨rfl, N13, (Nat.le_trans (Nat.le_trans (Nat.le_trans (Nat.le_trans Z3 (Nat.le_of_eq W6.size.symm)) (Nat.le_of_eq W8.size.symm)) (Nat.le_of_eq W10.size.symm)) (Nat.le_of_eq W13.size.symm)), Or.inr ⟨ar3, ka3, ⟨((((E_a1.wr W6).wr W8).wr W10).wr W13), ((((F_length_a1.other W6 (Or.inl ne_a1_ar3)).other W8 (Or.inl ne_a1_ar3)).other W10 (Or.inl ne_a1_ar3)).other W13 (Or.inl ne_a1_ar3)), ((((F_bytes_a1.other W6 (Or.inl ne_a1_ar3)).other W8 (Or.inl ne_a1_ar3)).other W10 (Or.inl ne_a1_ar3)).other W13 (Or.inl ne_a1_ar3)), ((((F_width_a1.other W6 (Or.inl ne_a1_ar3)).other W8 (Or.inl ne_a1_ar3)).other W10 (Or.inl ne_a1_ar3)).other W13 (Or.inl ne_a1_ar3)), V13, ne_a1_ar3⟩, g_ar3⟩⟩
    · refine Goes.st (U' := T2.setTop (mkF m 19 #[.val (.ref a1), .val (.int (2 : Int32)), .val (.int p3), .unset] [])) (fun t k => XS.ifYes X2.here hx rfl (pc0 := 12) (pc' := 19) rfl (hb hby d5_12) rfl ((if0 _ _).trans (feq hc12).2) (by decide) (by decide) k) ?_
      refine Goes.st (U' := T2.setTop (mkF m 20 #[.val (.ref a1), .val (.int (2 : Int32)), .val (.int p3), .unset] [(.int (2 : Int32))])) (fun t k => XS.iloadN X2.here hx rfl (hb hby d5_19) rfl k) ?_
      refine Goes.st (U' := T2.setTop (mkF m 21 #[.val (.ref a1), .val (.int (2 : Int32)), .val (.int p3), .unset] [(.ref a1), (.int (2 : Int32))])) (fun t k => XS.aloadN X2.here hx rfl (hb hby d5_20) rfl rfl k) ?_
      obtain ⟨T14, X14, e14, st14⟩ := getF X2 hx hZ hown (host := "") (Or.inl (hw _ (List.mem_of_getElem? (i := 18) rfl))) Via.refl e2 F_width_a1 (g := (mkF m 21 #[.val (.ref a1), .val (.int (2 : Int32)), .val (.int p3), .unset] [(.ref a1), (.int (2 : Int32))])) rfl rfl (hb hby d5_21)
      refine Goes.st (U' := T14.setTop (mkF m 24 #[.val (.ref a1), .val (.int (2 : Int32)), .val (.int p3), .unset] [(.int (3 : Int32)), (.int (2 : Int32))])) (fun t k => st14 t k) ?_
      refine Goes.st (U' := T14.setTop (mkF m 25 #[.val (.ref a1), .val (.int (2 : Int32)), .val (.int p3), .unset] [(.int (6 : Int32))])) (fun t k => XS.imul X14.here hx rfl (hb hby d5_24) rfl k) ?_
      refine Goes.st (U' := T14.setTop (mkF m 26 #[.val (.ref a1), .val (.int (2 : Int32)), .val (.int p3), .val (.int (6 : Int32))] [])) (fun t k => XS.istoreN X14.here hx rfl (hb hby d5_25) rfl (l' := #[.val (.ref a1), .val (.int (2 : Int32)), .val (.int p3), .val (.int (6 : Int32))]) rfl k) ?_
      refine Goes.st (U' := T14.setTop (mkF m 27 #[.val (.ref a1), .val (.int (2 : Int32)), .val (.int p3), .val (.int (6 : Int32))] [(.ref a1)])) (fun t k => XS.aloadN X14.here hx rfl (hb hby d5_26) rfl rfl k) ?_
      obtain ⟨T15, X15, e15, st15⟩ := getF X14 hx hZ hown (host := "") (Or.inl (hw _ (List.mem_of_getElem? (i := 16) rfl))) Via.refl e14 F_bytes_a1 (g := (mkF m 27 #[.val (.ref a1), .val (.int (2 : Int32)), .val (.int p3), .val (.int (6 : Int32))] [(.ref a1)])) rfl rfl (hb hby d5_27)
      refine Goes.st (U' := T15.setTop (mkF m 30 #[.val (.ref a1), .val (.int (2 : Int32)), .val (.int p3), .val (.int (6 : Int32))] [(.ref arr)])) (fun t k => st15 t k) ?_
      refine Goes.st (U' := T15.setTop (mkF m 31 #[.val (.ref a1), .val (.int (2 : Int32)), .val (.int p3), .val (.int (6 : Int32))] [(.int (6 : Int32)), (.ref arr)])) (fun t k => XS.iloadN X15.here hx rfl (hb hby d5_30) rfl k) ?_
      refine Goes.st (U' := T15.setTop (mkF m 32 #[.val (.ref a1), .val (.int (2 : Int32)), .val (.int p3), .val (.int (6 : Int32))] [(.int p3), (.int (6 : Int32)), (.ref arr)])) (fun t k => XS.iloadN X15.here hx rfl (hb hby d5_31) rfl k) ?_
      refine Goes.st (U' := T15.setTop (mkF m 33 #[.val (.ref a1), .val (.int (2 : Int32)), .val (.int p3), .val (.int (6 : Int32))] [(.int (p3.toInt8.toInt32)), (.int (6 : Int32)), (.ref arr)])) (fun t k => XS.i2b X15.here hx rfl (hb hby d5_32) rfl k) ?_
      have Vx16 := V_arr
      obtain ⟨cl16, Ar16, qa16, S16, Nn16, H16, G16⟩ := Vx16
      have hin16 : ¬ ((6 : Int32) < 0 ∨ cl16.slots.size ≤ ((6 : Int32)).toNatClampNeg) := inb_of S16 ⟨by decide, by decide⟩
      obtain ⟨T16, h16, X16, e16, W16, st16⟩ := stB X15 hx hZ e15 Ar16 (j := (6 : Int32)) hin16 (g := (mkF m 33 #[.val (.ref a1), .val (.int (2 : Int32)), .val (.int p3), .val (.int (6 : Int32))] [(.int (p3.toInt8.toInt32)), (.int (6 : Int32)), (.ref arr)])) rfl rfl (hb hby d5_33)
      have V16 : Arv Z h16 arr k .byte (9 : Int32) [(.int (own_b0 x0)), (.int (own_b1 x0)), (.int (own_b2 x0)), (.int (own_b0 x1)), (.int (own_b1 x1)), (.int (own_b2 x1)), (.int ((p3.toInt8.toInt32).toInt8.toInt32)), (.int (own_b1 x2)), (.int (own_b2 x2))] (.int (0 : Int32)) := Arv.set Ar16 qa16 S16 Nn16 H16 G16 (fits_nar_byte _) W16 6 rfl (Nat.le_of_ble_eq_true rfl)
      have N16 := Fr.snoc X16 N2 g_arr
      refine Goes.st (U' := T16.setTop (mkF m 34 #[.val (.ref a1), .val (.int (2 : Int32)), .val (.int p3), .val (.int (6 : Int32))] [])) (fun t k => st16 t k) ?_
      refine Goes.st (U' := T16.setTop (mkF m 35 #[.val (.ref a1), .val (.int (2 : Int32)), .val (.int p3), .val (.int (6 : Int32))] [(.ref a1)])) (fun t k => XS.aloadN X16.here hx rfl (hb hby d5_34) rfl rfl k) ?_
      obtain ⟨T17, X17, e17, st17⟩ := getF X16 hx hZ hown (host := "") (Or.inl (hw _ (List.mem_of_getElem? (i := 16) rfl))) Via.refl e16 (F_bytes_a1.other W16 (Or.inl ne_a1_arr)) (g := (mkF m 35 #[.val (.ref a1), .val (.int (2 : Int32)), .val (.int p3), .val (.int (6 : Int32))] [(.ref a1)])) rfl rfl (hb hby d5_35)
      refine Goes.st (U' := T17.setTop (mkF m 38 #[.val (.ref a1), .val (.int (2 : Int32)), .val (.int p3), .val (.int (6 : Int32))] [(.ref arr)])) (fun t k => st17 t k) ?_
      refine Goes.st (U' := T17.setTop (mkF m 39 #[.val (.ref a1), .val (.int (2 : Int32)), .val (.int p3), .val (.int (6 : Int32))] [(.int (6 : Int32)), (.ref arr)])) (fun t k => XS.iloadN X17.here hx rfl (hb hby d5_38) rfl k) ?_
      refine Goes.st (U' := T17.setTop (mkF m 40 #[.val (.ref a1), .val (.int (2 : Int32)), .val (.int p3), .val (.int (6 : Int32))] [(.int (1 : Int32)), (.int (6 : Int32)), (.ref arr)])) (fun t k => XS.iconst X17.here hx rfl (hb hby d5_39) k) ?_
      refine Goes.st (U' := T17.setTop (mkF m 41 #[.val (.ref a1), .val (.int (2 : Int32)), .val (.int p3), .val (.int (6 : Int32))] [(.int (7 : Int32)), (.ref arr)])) (fun t k => XS.iadd X17.here hx rfl (hb hby d5_40) rfl k) ?_
      refine Goes.st (U' := T17.setTop (mkF m 42 #[.val (.ref a1), .val (.int (2 : Int32)), .val (.int p3), .val (.int (6 : Int32))] [(.int p3), (.int (7 : Int32)), (.ref arr)])) (fun t k => XS.iloadN X17.here hx rfl (hb hby d5_41) rfl k) ?_
      refine Goes.st (U' := T17.setTop (mkF m 44 #[.val (.ref a1), .val (.int (2 : Int32)), .val (.int p3), .val (.int (6 : Int32))] [(.int (8 : Int32)), (.int p3), (.int (7 : Int32)), (.ref arr)])) (fun t k => XS.bipush X17.here hx rfl (hb hby d5_42) k) ?_
      refine Goes.st (U' := T17.setTop (mkF m 45 #[.val (.ref a1), .val (.int (2 : Int32)), .val (.int p3), .val (.int (6 : Int32))] [(.int (p3 >>> ((8 : Int32) &&& 31))), (.int (7 : Int32)), (.ref arr)])) (fun t k => XS.ishr X17.here hx rfl (hb hby d5_44) rfl k) ?_
      refine Goes.st (U' := T17.setTop (mkF m 46 #[.val (.ref a1), .val (.int (2 : Int32)), .val (.int p3), .val (.int (6 : Int32))] [(.int ((p3 >>> ((8 : Int32) &&& 31)).toInt8.toInt32)), (.int (7 : Int32)), (.ref arr)])) (fun t k => XS.i2b X17.here hx rfl (hb hby d5_45) rfl k) ?_
      have Vx18 := V16
      obtain ⟨cl18, Ar18, qa18, S18, Nn18, H18, G18⟩ := Vx18
      have hin18 : ¬ ((7 : Int32) < 0 ∨ cl18.slots.size ≤ ((7 : Int32)).toNatClampNeg) := inb_of S18 ⟨by decide, by decide⟩
      obtain ⟨T18, h18, X18, e18, W18, st18⟩ := stB X17 hx hZ e17 Ar18 (j := (7 : Int32)) hin18 (g := (mkF m 46 #[.val (.ref a1), .val (.int (2 : Int32)), .val (.int p3), .val (.int (6 : Int32))] [(.int ((p3 >>> ((8 : Int32) &&& 31)).toInt8.toInt32)), (.int (7 : Int32)), (.ref arr)])) rfl rfl (hb hby d5_46)
      have V18 : Arv Z h18 arr k .byte (9 : Int32) [(.int (own_b0 x0)), (.int (own_b1 x0)), (.int (own_b2 x0)), (.int (own_b0 x1)), (.int (own_b1 x1)), (.int (own_b2 x1)), (.int ((p3.toInt8.toInt32).toInt8.toInt32)), (.int (((p3 >>> ((8 : Int32) &&& 31)).toInt8.toInt32).toInt8.toInt32)), (.int (own_b2 x2))] (.int (0 : Int32)) := Arv.set Ar18 qa18 S18 Nn18 H18 G18 (fits_nar_byte _) W18 7 rfl (Nat.le_of_ble_eq_true rfl)
      have N18 := Fr.snoc X18 N16 g_arr
      refine Goes.st (U' := T18.setTop (mkF m 47 #[.val (.ref a1), .val (.int (2 : Int32)), .val (.int p3), .val (.int (6 : Int32))] [])) (fun t k => st18 t k) ?_
      refine Goes.st (U' := T18.setTop (mkF m 48 #[.val (.ref a1), .val (.int (2 : Int32)), .val (.int p3), .val (.int (6 : Int32))] [(.ref a1)])) (fun t k => XS.aloadN X18.here hx rfl (hb hby d5_47) rfl rfl k) ?_
      obtain ⟨T19, X19, e19, st19⟩ := getF X18 hx hZ hown (host := "") (Or.inl (hw _ (List.mem_of_getElem? (i := 16) rfl))) Via.refl e18 ((F_bytes_a1.other W16 (Or.inl ne_a1_arr)).other W18 (Or.inl ne_a1_arr)) (g := (mkF m 48 #[.val (.ref a1), .val (.int (2 : Int32)), .val (.int p3), .val (.int (6 : Int32))] [(.ref a1)])) rfl rfl (hb hby d5_48)
      refine Goes.st (U' := T19.setTop (mkF m 51 #[.val (.ref a1), .val (.int (2 : Int32)), .val (.int p3), .val (.int (6 : Int32))] [(.ref arr)])) (fun t k => st19 t k) ?_
      refine Goes.st (U' := T19.setTop (mkF m 52 #[.val (.ref a1), .val (.int (2 : Int32)), .val (.int p3), .val (.int (6 : Int32))] [(.int (6 : Int32)), (.ref arr)])) (fun t k => XS.iloadN X19.here hx rfl (hb hby d5_51) rfl k) ?_
      refine Goes.st (U' := T19.setTop (mkF m 53 #[.val (.ref a1), .val (.int (2 : Int32)), .val (.int p3), .val (.int (6 : Int32))] [(.int (2 : Int32)), (.int (6 : Int32)), (.ref arr)])) (fun t k => XS.iconst X19.here hx rfl (hb hby d5_52) k) ?_
      refine Goes.st (U' := T19.setTop (mkF m 54 #[.val (.ref a1), .val (.int (2 : Int32)), .val (.int p3), .val (.int (6 : Int32))] [(.int (8 : Int32)), (.ref arr)])) (fun t k => XS.iadd X19.here hx rfl (hb hby d5_53) rfl k) ?_
      refine Goes.st (U' := T19.setTop (mkF m 55 #[.val (.ref a1), .val (.int (2 : Int32)), .val (.int p3), .val (.int (6 : Int32))] [(.int p3), (.int (8 : Int32)), (.ref arr)])) (fun t k => XS.iloadN X19.here hx rfl (hb hby d5_54) rfl k) ?_
      refine Goes.st (U' := T19.setTop (mkF m 57 #[.val (.ref a1), .val (.int (2 : Int32)), .val (.int p3), .val (.int (6 : Int32))] [(.int (16 : Int32)), (.int p3), (.int (8 : Int32)), (.ref arr)])) (fun t k => XS.bipush X19.here hx rfl (hb hby d5_55) k) ?_
      refine Goes.st (U' := T19.setTop (mkF m 58 #[.val (.ref a1), .val (.int (2 : Int32)), .val (.int p3), .val (.int (6 : Int32))] [(.int (p3 >>> ((16 : Int32) &&& 31))), (.int (8 : Int32)), (.ref arr)])) (fun t k => XS.ishr X19.here hx rfl (hb hby d5_57) rfl k) ?_
      refine Goes.st (U' := T19.setTop (mkF m 59 #[.val (.ref a1), .val (.int (2 : Int32)), .val (.int p3), .val (.int (6 : Int32))] [(.int ((p3 >>> ((16 : Int32) &&& 31)).toInt8.toInt32)), (.int (8 : Int32)), (.ref arr)])) (fun t k => XS.i2b X19.here hx rfl (hb hby d5_58) rfl k) ?_
      have Vx20 := V18
      obtain ⟨cl20, Ar20, qa20, S20, Nn20, H20, G20⟩ := Vx20
      have hin20 : ¬ ((8 : Int32) < 0 ∨ cl20.slots.size ≤ ((8 : Int32)).toNatClampNeg) := inb_of S20 ⟨by decide, by decide⟩
      obtain ⟨T20, h20, X20, e20, W20, st20⟩ := stB X19 hx hZ e19 Ar20 (j := (8 : Int32)) hin20 (g := (mkF m 59 #[.val (.ref a1), .val (.int (2 : Int32)), .val (.int p3), .val (.int (6 : Int32))] [(.int ((p3 >>> ((16 : Int32) &&& 31)).toInt8.toInt32)), (.int (8 : Int32)), (.ref arr)])) rfl rfl (hb hby d5_59)
      have V20 : Arv Z h20 arr k .byte (9 : Int32) [(.int (own_b0 x0)), (.int (own_b1 x0)), (.int (own_b2 x0)), (.int (own_b0 x1)), (.int (own_b1 x1)), (.int (own_b2 x1)), (.int ((p3.toInt8.toInt32).toInt8.toInt32)), (.int (((p3 >>> ((8 : Int32) &&& 31)).toInt8.toInt32).toInt8.toInt32)), (.int (((p3 >>> ((16 : Int32) &&& 31)).toInt8.toInt32).toInt8.toInt32))] (.int (0 : Int32)) := Arv.set Ar20 qa20 S20 Nn20 H20 G20 (fits_nar_byte _) W20 8 rfl (Nat.le_of_ble_eq_true rfl)
      have N20 := Fr.snoc X20 N18 g_arr
      refine Goes.st (U' := T20.setTop (mkF m 60 #[.val (.ref a1), .val (.int (2 : Int32)), .val (.int p3), .val (.int (6 : Int32))] [])) (fun t k => st20 t k) ?_
      refine Goes.st (U' := T20.setTop (mkF m 61 #[.val (.ref a1), .val (.int (2 : Int32)), .val (.int p3), .val (.int (6 : Int32))] [(.ref a1)])) (fun t k => XS.aloadN X20.here hx rfl (hb hby d5_60) rfl rfl k) ?_
      obtain ⟨T21, X21, e21, st21⟩ := getF X20 hx hZ hown (host := "") (Or.inl (hw _ (List.mem_of_getElem? (i := 18) rfl))) Via.refl e20 (((F_width_a1.other W16 (Or.inl ne_a1_arr)).other W18 (Or.inl ne_a1_arr)).other W20 (Or.inl ne_a1_arr)) (g := (mkF m 61 #[.val (.ref a1), .val (.int (2 : Int32)), .val (.int p3), .val (.int (6 : Int32))] [(.ref a1)])) rfl rfl (hb hby d5_61)
      refine Goes.st (U' := T21.setTop (mkF m 64 #[.val (.ref a1), .val (.int (2 : Int32)), .val (.int p3), .val (.int (6 : Int32))] [(.int (3 : Int32))])) (fun t k => st21 t k) ?_
      refine Goes.st (U' := T21.setTop (mkF m 65 #[.val (.ref a1), .val (.int (2 : Int32)), .val (.int p3), .val (.int (6 : Int32))] [(.int (4 : Int32)), (.int (3 : Int32))])) (fun t k => XS.iconst X21.here hx rfl (hb hby d5_64) k) ?_
      refine Goes.st (U' := T21.setTop (mkF m 81 #[.val (.ref a1), .val (.int (2 : Int32)), .val (.int p3), .val (.int (6 : Int32))] [])) (fun t k => XS.icmpYes X21.here hx rfl (pc0 := 65) (pc' := 81) rfl (hb hby d5_65) rfl (feq (by decide : ¬ ((3 : Int32) = (4 : Int32)))).2 (by decide) (by decide) k) ?_
      refine Goes.retV X21 hx (BodyLoose.notSynchronized Bd) Bd.returns (hb hby d5_81) (by decide) (by decide) ?_
      show Q_rmS2 Z a1 (2 : Int32) p3 x0 x1 x2 h0 n0 _ T21.heap _
      rw [e21]
      exact ⟨rfl, N20, (Nat.le_trans (Nat.le_trans (Nat.le_trans Z0 (Nat.le_of_eq W16.size.symm)) (Nat.le_of_eq W18.size.symm)) (Nat.le_of_eq W20.size.symm)), Or.inl ⟨arr, k, ⟨(((E_a1.wr W16).wr W18).wr W20), (((F_length_a1.other W16 (Or.inl ne_a1_arr)).other W18 (Or.inl ne_a1_arr)).other W20 (Or.inl ne_a1_arr)), (((F_bytes_a1.other W16 (Or.inl ne_a1_arr)).other W18 (Or.inl ne_a1_arr)).other W20 (Or.inl ne_a1_arr)), (((F_width_a1.other W16 (Or.inl ne_a1_arr)).other W18 (Or.inl ne_a1_arr)).other W20 (Or.inl ne_a1_arr)), V20, ne_a1_arr, hf0_a1, hf1_a1, (own_fits1 _ hc12)⟩, g_arr⟩⟩
  · have Pc := P
    obtain ⟨E_a1, F_length_a1, F_bytes_a1, F_width_a1, V_arr, ne_a1_arr⟩ := P
    refine Goes.st (U' := s₁.setTop (mkF m 1 #[.val (.ref a1), .val (.int (2 : Int32)), .val (.int p3), .unset] [(.ref a1)])) (fun t k => XS.aloadN X0.here hx rfl (hb hby d5_0) rfl rfl k) ?_
    obtain ⟨T22, X22, e22, st22⟩ := getF X0 hx hZ hown (host := "") (Or.inl (hw _ (List.mem_of_getElem? (i := 18) rfl))) Via.refl e0 F_width_a1 (g := (mkF m 1 #[.val (.ref a1), .val (.int (2 : Int32)), .val (.int p3), .unset] [(.ref a1)])) rfl rfl (hb hby d5_1)
    refine Goes.st (U' := T22.setTop (mkF m 4 #[.val (.ref a1), .val (.int (2 : Int32)), .val (.int p3), .unset] [(.int (4 : Int32))])) (fun t k => st22 t k) ?_
    refine Goes.st (U' := T22.setTop (mkF m 5 #[.val (.ref a1), .val (.int (2 : Int32)), .val (.int p3), .unset] [(.int (3 : Int32)), (.int (4 : Int32))])) (fun t k => XS.iconst X22.here hx rfl (hb hby d5_4) k) ?_
    refine Goes.st (U' := T22.setTop (mkF m 19 #[.val (.ref a1), .val (.int (2 : Int32)), .val (.int p3), .unset] [])) (fun t k => XS.icmpYes X22.here hx rfl (pc0 := 5) (pc' := 19) rfl (hb hby d5_5) rfl (feq (by decide : ¬ ((4 : Int32) = (3 : Int32)))).2 (by decide) (by decide) k) ?_
    refine Goes.st (U' := T22.setTop (mkF m 20 #[.val (.ref a1), .val (.int (2 : Int32)), .val (.int p3), .unset] [(.int (2 : Int32))])) (fun t k => XS.iloadN X22.here hx rfl (hb hby d5_19) rfl k) ?_
    refine Goes.st (U' := T22.setTop (mkF m 21 #[.val (.ref a1), .val (.int (2 : Int32)), .val (.int p3), .unset] [(.ref a1), (.int (2 : Int32))])) (fun t k => XS.aloadN X22.here hx rfl (hb hby d5_20) rfl rfl k) ?_
    obtain ⟨T23, X23, e23, st23⟩ := getF X22 hx hZ hown (host := "") (Or.inl (hw _ (List.mem_of_getElem? (i := 18) rfl))) Via.refl e22 F_width_a1 (g := (mkF m 21 #[.val (.ref a1), .val (.int (2 : Int32)), .val (.int p3), .unset] [(.ref a1), (.int (2 : Int32))])) rfl rfl (hb hby d5_21)
    refine Goes.st (U' := T23.setTop (mkF m 24 #[.val (.ref a1), .val (.int (2 : Int32)), .val (.int p3), .unset] [(.int (4 : Int32)), (.int (2 : Int32))])) (fun t k => st23 t k) ?_
    refine Goes.st (U' := T23.setTop (mkF m 25 #[.val (.ref a1), .val (.int (2 : Int32)), .val (.int p3), .unset] [(.int (8 : Int32))])) (fun t k => XS.imul X23.here hx rfl (hb hby d5_24) rfl k) ?_
    refine Goes.st (U' := T23.setTop (mkF m 26 #[.val (.ref a1), .val (.int (2 : Int32)), .val (.int p3), .val (.int (8 : Int32))] [])) (fun t k => XS.istoreN X23.here hx rfl (hb hby d5_25) rfl (l' := #[.val (.ref a1), .val (.int (2 : Int32)), .val (.int p3), .val (.int (8 : Int32))]) rfl k) ?_
    refine Goes.st (U' := T23.setTop (mkF m 27 #[.val (.ref a1), .val (.int (2 : Int32)), .val (.int p3), .val (.int (8 : Int32))] [(.ref a1)])) (fun t k => XS.aloadN X23.here hx rfl (hb hby d5_26) rfl rfl k) ?_
    obtain ⟨T24, X24, e24, st24⟩ := getF X23 hx hZ hown (host := "") (Or.inl (hw _ (List.mem_of_getElem? (i := 16) rfl))) Via.refl e23 F_bytes_a1 (g := (mkF m 27 #[.val (.ref a1), .val (.int (2 : Int32)), .val (.int p3), .val (.int (8 : Int32))] [(.ref a1)])) rfl rfl (hb hby d5_27)
    refine Goes.st (U' := T24.setTop (mkF m 30 #[.val (.ref a1), .val (.int (2 : Int32)), .val (.int p3), .val (.int (8 : Int32))] [(.ref arr)])) (fun t k => st24 t k) ?_
    refine Goes.st (U' := T24.setTop (mkF m 31 #[.val (.ref a1), .val (.int (2 : Int32)), .val (.int p3), .val (.int (8 : Int32))] [(.int (8 : Int32)), (.ref arr)])) (fun t k => XS.iloadN X24.here hx rfl (hb hby d5_30) rfl k) ?_
    refine Goes.st (U' := T24.setTop (mkF m 32 #[.val (.ref a1), .val (.int (2 : Int32)), .val (.int p3), .val (.int (8 : Int32))] [(.int p3), (.int (8 : Int32)), (.ref arr)])) (fun t k => XS.iloadN X24.here hx rfl (hb hby d5_31) rfl k) ?_
    refine Goes.st (U' := T24.setTop (mkF m 33 #[.val (.ref a1), .val (.int (2 : Int32)), .val (.int p3), .val (.int (8 : Int32))] [(.int (p3.toInt8.toInt32)), (.int (8 : Int32)), (.ref arr)])) (fun t k => XS.i2b X24.here hx rfl (hb hby d5_32) rfl k) ?_
    have Vx25 := V_arr
    obtain ⟨cl25, Ar25, qa25, S25, Nn25, H25, G25⟩ := Vx25
    have hin25 : ¬ ((8 : Int32) < 0 ∨ cl25.slots.size ≤ ((8 : Int32)).toNatClampNeg) := inb_of S25 ⟨by decide, by decide⟩
    obtain ⟨T25, h25, X25, e25, W25, st25⟩ := stB X24 hx hZ e24 Ar25 (j := (8 : Int32)) hin25 (g := (mkF m 33 #[.val (.ref a1), .val (.int (2 : Int32)), .val (.int p3), .val (.int (8 : Int32))] [(.int (p3.toInt8.toInt32)), (.int (8 : Int32)), (.ref arr)])) rfl rfl (hb hby d5_33)
    have V25 : Arv Z h25 arr k .byte (12 : Int32) [(.int (own_b0 x0)), (.int (own_b1 x0)), (.int (own_b2 x0)), (.int (own_b3 x0)), (.int (own_b0 x1)), (.int (own_b1 x1)), (.int (own_b2 x1)), (.int (own_b3 x1)), (.int ((p3.toInt8.toInt32).toInt8.toInt32)), (.int (own_b1 x2)), (.int (own_b2 x2)), (.int (own_b3 x2))] (.int (0 : Int32)) := Arv.set Ar25 qa25 S25 Nn25 H25 G25 (fits_nar_byte _) W25 8 rfl (Nat.le_of_ble_eq_true rfl)
    have N25 := Fr.snoc X25 N0 g_arr
    refine Goes.st (U' := T25.setTop (mkF m 34 #[.val (.ref a1), .val (.int (2 : Int32)), .val (.int p3), .val (.int (8 : Int32))] [])) (fun t k => st25 t k) ?_
    refine Goes.st (U' := T25.setTop (mkF m 35 #[.val (.ref a1), .val (.int (2 : Int32)), .val (.int p3), .val (.int (8 : Int32))] [(.ref a1)])) (fun t k => XS.aloadN X25.here hx rfl (hb hby d5_34) rfl rfl k) ?_
    obtain ⟨T26, X26, e26, st26⟩ := getF X25 hx hZ hown (host := "") (Or.inl (hw _ (List.mem_of_getElem? (i := 16) rfl))) Via.refl e25 (F_bytes_a1.other W25 (Or.inl ne_a1_arr)) (g := (mkF m 35 #[.val (.ref a1), .val (.int (2 : Int32)), .val (.int p3), .val (.int (8 : Int32))] [(.ref a1)])) rfl rfl (hb hby d5_35)
    refine Goes.st (U' := T26.setTop (mkF m 38 #[.val (.ref a1), .val (.int (2 : Int32)), .val (.int p3), .val (.int (8 : Int32))] [(.ref arr)])) (fun t k => st26 t k) ?_
    refine Goes.st (U' := T26.setTop (mkF m 39 #[.val (.ref a1), .val (.int (2 : Int32)), .val (.int p3), .val (.int (8 : Int32))] [(.int (8 : Int32)), (.ref arr)])) (fun t k => XS.iloadN X26.here hx rfl (hb hby d5_38) rfl k) ?_
    refine Goes.st (U' := T26.setTop (mkF m 40 #[.val (.ref a1), .val (.int (2 : Int32)), .val (.int p3), .val (.int (8 : Int32))] [(.int (1 : Int32)), (.int (8 : Int32)), (.ref arr)])) (fun t k => XS.iconst X26.here hx rfl (hb hby d5_39) k) ?_
    refine Goes.st (U' := T26.setTop (mkF m 41 #[.val (.ref a1), .val (.int (2 : Int32)), .val (.int p3), .val (.int (8 : Int32))] [(.int (9 : Int32)), (.ref arr)])) (fun t k => XS.iadd X26.here hx rfl (hb hby d5_40) rfl k) ?_
    refine Goes.st (U' := T26.setTop (mkF m 42 #[.val (.ref a1), .val (.int (2 : Int32)), .val (.int p3), .val (.int (8 : Int32))] [(.int p3), (.int (9 : Int32)), (.ref arr)])) (fun t k => XS.iloadN X26.here hx rfl (hb hby d5_41) rfl k) ?_
    refine Goes.st (U' := T26.setTop (mkF m 44 #[.val (.ref a1), .val (.int (2 : Int32)), .val (.int p3), .val (.int (8 : Int32))] [(.int (8 : Int32)), (.int p3), (.int (9 : Int32)), (.ref arr)])) (fun t k => XS.bipush X26.here hx rfl (hb hby d5_42) k) ?_
    refine Goes.st (U' := T26.setTop (mkF m 45 #[.val (.ref a1), .val (.int (2 : Int32)), .val (.int p3), .val (.int (8 : Int32))] [(.int (p3 >>> ((8 : Int32) &&& 31))), (.int (9 : Int32)), (.ref arr)])) (fun t k => XS.ishr X26.here hx rfl (hb hby d5_44) rfl k) ?_
    refine Goes.st (U' := T26.setTop (mkF m 46 #[.val (.ref a1), .val (.int (2 : Int32)), .val (.int p3), .val (.int (8 : Int32))] [(.int ((p3 >>> ((8 : Int32) &&& 31)).toInt8.toInt32)), (.int (9 : Int32)), (.ref arr)])) (fun t k => XS.i2b X26.here hx rfl (hb hby d5_45) rfl k) ?_
    have Vx27 := V25
    obtain ⟨cl27, Ar27, qa27, S27, Nn27, H27, G27⟩ := Vx27
    have hin27 : ¬ ((9 : Int32) < 0 ∨ cl27.slots.size ≤ ((9 : Int32)).toNatClampNeg) := inb_of S27 ⟨by decide, by decide⟩
    obtain ⟨T27, h27, X27, e27, W27, st27⟩ := stB X26 hx hZ e26 Ar27 (j := (9 : Int32)) hin27 (g := (mkF m 46 #[.val (.ref a1), .val (.int (2 : Int32)), .val (.int p3), .val (.int (8 : Int32))] [(.int ((p3 >>> ((8 : Int32) &&& 31)).toInt8.toInt32)), (.int (9 : Int32)), (.ref arr)])) rfl rfl (hb hby d5_46)
    have V27 : Arv Z h27 arr k .byte (12 : Int32) [(.int (own_b0 x0)), (.int (own_b1 x0)), (.int (own_b2 x0)), (.int (own_b3 x0)), (.int (own_b0 x1)), (.int (own_b1 x1)), (.int (own_b2 x1)), (.int (own_b3 x1)), (.int ((p3.toInt8.toInt32).toInt8.toInt32)), (.int (((p3 >>> ((8 : Int32) &&& 31)).toInt8.toInt32).toInt8.toInt32)), (.int (own_b2 x2)), (.int (own_b3 x2))] (.int (0 : Int32)) := Arv.set Ar27 qa27 S27 Nn27 H27 G27 (fits_nar_byte _) W27 9 rfl (Nat.le_of_ble_eq_true rfl)
    have N27 := Fr.snoc X27 N25 g_arr
    refine Goes.st (U' := T27.setTop (mkF m 47 #[.val (.ref a1), .val (.int (2 : Int32)), .val (.int p3), .val (.int (8 : Int32))] [])) (fun t k => st27 t k) ?_
    refine Goes.st (U' := T27.setTop (mkF m 48 #[.val (.ref a1), .val (.int (2 : Int32)), .val (.int p3), .val (.int (8 : Int32))] [(.ref a1)])) (fun t k => XS.aloadN X27.here hx rfl (hb hby d5_47) rfl rfl k) ?_
    obtain ⟨T28, X28, e28, st28⟩ := getF X27 hx hZ hown (host := "") (Or.inl (hw _ (List.mem_of_getElem? (i := 16) rfl))) Via.refl e27 ((F_bytes_a1.other W25 (Or.inl ne_a1_arr)).other W27 (Or.inl ne_a1_arr)) (g := (mkF m 48 #[.val (.ref a1), .val (.int (2 : Int32)), .val (.int p3), .val (.int (8 : Int32))] [(.ref a1)])) rfl rfl (hb hby d5_48)
    refine Goes.st (U' := T28.setTop (mkF m 51 #[.val (.ref a1), .val (.int (2 : Int32)), .val (.int p3), .val (.int (8 : Int32))] [(.ref arr)])) (fun t k => st28 t k) ?_
    refine Goes.st (U' := T28.setTop (mkF m 52 #[.val (.ref a1), .val (.int (2 : Int32)), .val (.int p3), .val (.int (8 : Int32))] [(.int (8 : Int32)), (.ref arr)])) (fun t k => XS.iloadN X28.here hx rfl (hb hby d5_51) rfl k) ?_
    refine Goes.st (U' := T28.setTop (mkF m 53 #[.val (.ref a1), .val (.int (2 : Int32)), .val (.int p3), .val (.int (8 : Int32))] [(.int (2 : Int32)), (.int (8 : Int32)), (.ref arr)])) (fun t k => XS.iconst X28.here hx rfl (hb hby d5_52) k) ?_
    refine Goes.st (U' := T28.setTop (mkF m 54 #[.val (.ref a1), .val (.int (2 : Int32)), .val (.int p3), .val (.int (8 : Int32))] [(.int (10 : Int32)), (.ref arr)])) (fun t k => XS.iadd X28.here hx rfl (hb hby d5_53) rfl k) ?_
    refine Goes.st (U' := T28.setTop (mkF m 55 #[.val (.ref a1), .val (.int (2 : Int32)), .val (.int p3), .val (.int (8 : Int32))] [(.int p3), (.int (10 : Int32)), (.ref arr)])) (fun t k => XS.iloadN X28.here hx rfl (hb hby d5_54) rfl k) ?_
    refine Goes.st (U' := T28.setTop (mkF m 57 #[.val (.ref a1), .val (.int (2 : Int32)), .val (.int p3), .val (.int (8 : Int32))] [(.int (16 : Int32)), (.int p3), (.int (10 : Int32)), (.ref arr)])) (fun t k => XS.bipush X28.here hx rfl (hb hby d5_55) k) ?_
    refine Goes.st (U' := T28.setTop (mkF m 58 #[.val (.ref a1), .val (.int (2 : Int32)), .val (.int p3), .val (.int (8 : Int32))] [(.int (p3 >>> ((16 : Int32) &&& 31))), (.int (10 : Int32)), (.ref arr)])) (fun t k => XS.ishr X28.here hx rfl (hb hby d5_57) rfl k) ?_
    refine Goes.st (U' := T28.setTop (mkF m 59 #[.val (.ref a1), .val (.int (2 : Int32)), .val (.int p3), .val (.int (8 : Int32))] [(.int ((p3 >>> ((16 : Int32) &&& 31)).toInt8.toInt32)), (.int (10 : Int32)), (.ref arr)])) (fun t k => XS.i2b X28.here hx rfl (hb hby d5_58) rfl k) ?_
    have Vx29 := V27
    obtain ⟨cl29, Ar29, qa29, S29, Nn29, H29, G29⟩ := Vx29
    have hin29 : ¬ ((10 : Int32) < 0 ∨ cl29.slots.size ≤ ((10 : Int32)).toNatClampNeg) := inb_of S29 ⟨by decide, by decide⟩
    obtain ⟨T29, h29, X29, e29, W29, st29⟩ := stB X28 hx hZ e28 Ar29 (j := (10 : Int32)) hin29 (g := (mkF m 59 #[.val (.ref a1), .val (.int (2 : Int32)), .val (.int p3), .val (.int (8 : Int32))] [(.int ((p3 >>> ((16 : Int32) &&& 31)).toInt8.toInt32)), (.int (10 : Int32)), (.ref arr)])) rfl rfl (hb hby d5_59)
    have V29 : Arv Z h29 arr k .byte (12 : Int32) [(.int (own_b0 x0)), (.int (own_b1 x0)), (.int (own_b2 x0)), (.int (own_b3 x0)), (.int (own_b0 x1)), (.int (own_b1 x1)), (.int (own_b2 x1)), (.int (own_b3 x1)), (.int ((p3.toInt8.toInt32).toInt8.toInt32)), (.int (((p3 >>> ((8 : Int32) &&& 31)).toInt8.toInt32).toInt8.toInt32)), (.int (((p3 >>> ((16 : Int32) &&& 31)).toInt8.toInt32).toInt8.toInt32)), (.int (own_b3 x2))] (.int (0 : Int32)) := Arv.set Ar29 qa29 S29 Nn29 H29 G29 (fits_nar_byte _) W29 10 rfl (Nat.le_of_ble_eq_true rfl)
    have N29 := Fr.snoc X29 N27 g_arr
    refine Goes.st (U' := T29.setTop (mkF m 60 #[.val (.ref a1), .val (.int (2 : Int32)), .val (.int p3), .val (.int (8 : Int32))] [])) (fun t k => st29 t k) ?_
    refine Goes.st (U' := T29.setTop (mkF m 61 #[.val (.ref a1), .val (.int (2 : Int32)), .val (.int p3), .val (.int (8 : Int32))] [(.ref a1)])) (fun t k => XS.aloadN X29.here hx rfl (hb hby d5_60) rfl rfl k) ?_
    obtain ⟨T30, X30, e30, st30⟩ := getF X29 hx hZ hown (host := "") (Or.inl (hw _ (List.mem_of_getElem? (i := 18) rfl))) Via.refl e29 (((F_width_a1.other W25 (Or.inl ne_a1_arr)).other W27 (Or.inl ne_a1_arr)).other W29 (Or.inl ne_a1_arr)) (g := (mkF m 61 #[.val (.ref a1), .val (.int (2 : Int32)), .val (.int p3), .val (.int (8 : Int32))] [(.ref a1)])) rfl rfl (hb hby d5_61)
    refine Goes.st (U' := T30.setTop (mkF m 64 #[.val (.ref a1), .val (.int (2 : Int32)), .val (.int p3), .val (.int (8 : Int32))] [(.int (4 : Int32))])) (fun t k => st30 t k) ?_
    refine Goes.st (U' := T30.setTop (mkF m 65 #[.val (.ref a1), .val (.int (2 : Int32)), .val (.int p3), .val (.int (8 : Int32))] [(.int (4 : Int32)), (.int (4 : Int32))])) (fun t k => XS.iconst X30.here hx rfl (hb hby d5_64) k) ?_
    refine Goes.st (U' := T30.setTop (mkF m 68 #[.val (.ref a1), .val (.int (2 : Int32)), .val (.int p3), .val (.int (8 : Int32))] [])) (fun t k => XS.icmpNo X30.here hx rfl (hb hby d5_65) rfl (teq (rfl : (4 : Int32) = (4 : Int32))).2 k) ?_
    refine Goes.st (U' := T30.setTop (mkF m 69 #[.val (.ref a1), .val (.int (2 : Int32)), .val (.int p3), .val (.int (8 : Int32))] [(.ref a1)])) (fun t k => XS.aloadN X30.here hx rfl (hb hby d5_68) rfl rfl k) ?_
    obtain ⟨T31, X31, e31, st31⟩ := getF X30 hx hZ hown (host := "") (Or.inl (hw _ (List.mem_of_getElem? (i := 16) rfl))) Via.refl e30 (((F_bytes_a1.other W25 (Or.inl ne_a1_arr)).other W27 (Or.inl ne_a1_arr)).other W29 (Or.inl ne_a1_arr)) (g := (mkF m 69 #[.val (.ref a1), .val (.int (2 : Int32)), .val (.int p3), .val (.int (8 : Int32))] [(.ref a1)])) rfl rfl (hb hby d5_69)
    refine Goes.st (U' := T31.setTop (mkF m 72 #[.val (.ref a1), .val (.int (2 : Int32)), .val (.int p3), .val (.int (8 : Int32))] [(.ref arr)])) (fun t k => st31 t k) ?_
    refine Goes.st (U' := T31.setTop (mkF m 73 #[.val (.ref a1), .val (.int (2 : Int32)), .val (.int p3), .val (.int (8 : Int32))] [(.int (8 : Int32)), (.ref arr)])) (fun t k => XS.iloadN X31.here hx rfl (hb hby d5_72) rfl k) ?_
    refine Goes.st (U' := T31.setTop (mkF m 74 #[.val (.ref a1), .val (.int (2 : Int32)), .val (.int p3), .val (.int (8 : Int32))] [(.int (3 : Int32)), (.int (8 : Int32)), (.ref arr)])) (fun t k => XS.iconst X31.here hx rfl (hb hby d5_73) k) ?_
    refine Goes.st (U' := T31.setTop (mkF m 75 #[.val (.ref a1), .val (.int (2 : Int32)), .val (.int p3), .val (.int (8 : Int32))] [(.int (11 : Int32)), (.ref arr)])) (fun t k => XS.iadd X31.here hx rfl (hb hby d5_74) rfl k) ?_
    refine Goes.st (U' := T31.setTop (mkF m 76 #[.val (.ref a1), .val (.int (2 : Int32)), .val (.int p3), .val (.int (8 : Int32))] [(.int p3), (.int (11 : Int32)), (.ref arr)])) (fun t k => XS.iloadN X31.here hx rfl (hb hby d5_75) rfl k) ?_
    refine Goes.st (U' := T31.setTop (mkF m 78 #[.val (.ref a1), .val (.int (2 : Int32)), .val (.int p3), .val (.int (8 : Int32))] [(.int (24 : Int32)), (.int p3), (.int (11 : Int32)), (.ref arr)])) (fun t k => XS.bipush X31.here hx rfl (hb hby d5_76) k) ?_
    refine Goes.st (U' := T31.setTop (mkF m 79 #[.val (.ref a1), .val (.int (2 : Int32)), .val (.int p3), .val (.int (8 : Int32))] [(.int (p3 >>> ((24 : Int32) &&& 31))), (.int (11 : Int32)), (.ref arr)])) (fun t k => XS.ishr X31.here hx rfl (hb hby d5_78) rfl k) ?_
    refine Goes.st (U' := T31.setTop (mkF m 80 #[.val (.ref a1), .val (.int (2 : Int32)), .val (.int p3), .val (.int (8 : Int32))] [(.int ((p3 >>> ((24 : Int32) &&& 31)).toInt8.toInt32)), (.int (11 : Int32)), (.ref arr)])) (fun t k => XS.i2b X31.here hx rfl (hb hby d5_79) rfl k) ?_
    have Vx32 := V29
    obtain ⟨cl32, Ar32, qa32, S32, Nn32, H32, G32⟩ := Vx32
    have hin32 : ¬ ((11 : Int32) < 0 ∨ cl32.slots.size ≤ ((11 : Int32)).toNatClampNeg) := inb_of S32 ⟨by decide, by decide⟩
    obtain ⟨T32, h32, X32, e32, W32, st32⟩ := stB X31 hx hZ e31 Ar32 (j := (11 : Int32)) hin32 (g := (mkF m 80 #[.val (.ref a1), .val (.int (2 : Int32)), .val (.int p3), .val (.int (8 : Int32))] [(.int ((p3 >>> ((24 : Int32) &&& 31)).toInt8.toInt32)), (.int (11 : Int32)), (.ref arr)])) rfl rfl (hb hby d5_80)
    have V32 : Arv Z h32 arr k .byte (12 : Int32) [(.int (own_b0 x0)), (.int (own_b1 x0)), (.int (own_b2 x0)), (.int (own_b3 x0)), (.int (own_b0 x1)), (.int (own_b1 x1)), (.int (own_b2 x1)), (.int (own_b3 x1)), (.int ((p3.toInt8.toInt32).toInt8.toInt32)), (.int (((p3 >>> ((8 : Int32) &&& 31)).toInt8.toInt32).toInt8.toInt32)), (.int (((p3 >>> ((16 : Int32) &&& 31)).toInt8.toInt32).toInt8.toInt32)), (.int (((p3 >>> ((24 : Int32) &&& 31)).toInt8.toInt32).toInt8.toInt32))] (.int (0 : Int32)) := Arv.set Ar32 qa32 S32 Nn32 H32 G32 (fits_nar_byte _) W32 11 rfl (Nat.le_of_ble_eq_true rfl)
    have N32 := Fr.snoc X32 N29 g_arr
    refine Goes.st (U' := T32.setTop (mkF m 81 #[.val (.ref a1), .val (.int (2 : Int32)), .val (.int p3), .val (.int (8 : Int32))] [])) (fun t k => st32 t k) ?_
    refine Goes.retV X32 hx (BodyLoose.notSynchronized Bd) Bd.returns (hb hby d5_81) (by decide) (by decide) ?_
    show Q_rmS2 Z a1 (2 : Int32) p3 x0 x1 x2 h0 n0 _ T32.heap _
    rw [e32]
    exact ⟨rfl, N32, (Nat.le_trans (Nat.le_trans (Nat.le_trans (Nat.le_trans Z0 (Nat.le_of_eq W25.size.symm)) (Nat.le_of_eq W27.size.symm)) (Nat.le_of_eq W29.size.symm)) (Nat.le_of_eq W32.size.symm)), Or.inr ⟨arr, k, ⟨((((E_a1.wr W25).wr W27).wr W29).wr W32), ((((F_length_a1.other W25 (Or.inl ne_a1_arr)).other W27 (Or.inl ne_a1_arr)).other W29 (Or.inl ne_a1_arr)).other W32 (Or.inl ne_a1_arr)), ((((F_bytes_a1.other W25 (Or.inl ne_a1_arr)).other W27 (Or.inl ne_a1_arr)).other W29 (Or.inl ne_a1_arr)).other W32 (Or.inl ne_a1_arr)), ((((F_width_a1.other W25 (Or.inl ne_a1_arr)).other W27 (Or.inl ne_a1_arr)).other W29 (Or.inl ne_a1_arr)).other W32 (Or.inl ne_a1_arr)), V32, ne_a1_arr⟩, g_arr⟩⟩
theorem own_i (x : Int32) : (x &&& (2147483647 : Int32)) % (3 : Int32) = 0 ∨ (x &&& (2147483647 : Int32)) % (3 : Int32) = 1 ∨ (x &&& (2147483647 : Int32)) % (3 : Int32) = 2 := by
  have h := c_mask x 2147483647 31 (by decide) (by decide)
  have h2 := c_irem (x &&& 2147483647) 3 3 rfl
  simp only [← Int32.toInt_inj]
  have e0 : (0 : Int32).toInt = 0 := rfl
  have e1 : (1 : Int32).toInt = 1 := rfl
  have e2 : (2 : Int32).toInt = 2 := rfl
  omega
theorem pd_4 : parseMethodDescriptor "(I)V" = some ⟨[.int], none⟩ := by decide +kernel
theorem pn_1 : plainName "com/example/chaise/chaise/core/PackedIntsGetPinLaw" = true := by first | (simp [plainName, overriddenIn]; done) | decide +kernel
theorem ef_rm0 (m : MethodId) (p1 : Int32) (p2 : Int32) (p3 : Int32) (p4 : Int32) : entryFrame m #[(.int p1), (.int p2), (.int p3), (.int p4)] maxLocals = mkF m 0 #[.val (.int p1), .val (.int p2), .val (.int p3), .val (.int p4), .unset, .unset, .unset, .unset, .unset] [] := by first | (simp [entryFrame, mkF, argsToLocals, Value.category, maxLocals]; done) | rfl
def Q0 (Z : State) (p1 : Int32) (p2 : Int32) (p3 : Int32) (p4 : Int32) (h0 : Heap) (n0 : Nat) (v : Option Value) (h : Heap) (L : List Loc) : Prop := v = some (.int 1) ∧ Fr n0 L
set_option maxRecDepth 65536 in
set_option maxHeartbeats 40000000 in
theorem rm0 (l : Launch) (Z : State) (a0 : Array Value) (hw : ∀ d ∈ tables_1, d.before a0 Z = true) (ws : List Jvm.Cond) (p1 : Int32) (p2 : Int32) (p3 : Int32) (p4 : Int32) (h0 : Heap) (n0 : Nat) (Z0 : n0 ≤ h0.size) :
    MetFree l x (head1 (Jvm.Cond.code x code maxLocals ret :: ws) room_1) (fun a U => a = #[(.int p1), (.int p2), (.int p3), (.int p4)] ∧ Z.Warmed39 U.vm ∧ U.heap = h0) (fun _ _ _ _ _ => True) (fun _ U o U' => ∃ v L, o = .returned v ∧ Q0 Z p1 p2 p3 p4 h0 n0 v U'.heap L ∧ FrameEnd U o U' L room_1.cells room_1.slots) := by
  refine MetFree.of_bodySF (plainFor_of_name pn_1) hisR ?_
  intro p e s m args below meth c s₁ Bd hml0 hP hK
  obtain ⟨rfl, hZ, hh⟩ := hP
  have hx := Bd.exec
  have hby := Bd.bytes
  have hml : c.maxLocals = 9 := hml0
  have hown : s.vm.findClass "com/example/chaise/chaise/core/PackedIntsGetPinLaw" = some m.cls := findClass_of_methodNamed Bd.named
  have hnm := (name_of_methodNamed Bd.named Bd.method).1
  have X0 : Stand p l e room_1 s m #[(.int p1), (.int p2), (.int p3), (.int p4)] below meth c s₁ [] 0 0 := Stand.of_body Bd
  have e0 : s₁.heap = h0 := by rw [← hh, Bd.state]; rfl
  have N0 := Fr.nil n0
  show Goes p e s below (fun v h L => Q0 Z p1 p2 p3 p4 h0 n0 v h L) room_1.cells room_1.slots (s₁.setTop (entryFrame m #[(.int p1), (.int p2), (.int p3), (.int p4)] maxLocals))
  refine Goes.st (U' := s₁.setTop (mkF m 0 #[.val (.int p1), .val (.int p2), .val (.int p3), .val (.int p4), .unset, .unset, .unset, .unset, .unset] [])) (fun t k => castTop (ef_rm0 m p1 p2 p3 p4) k) ?_
  obtain ⟨T1, h1, X1, e1, E1, A1, D1, -, st1⟩ := newO X0 hx hZ hown (hw _ (List.mem_of_getElem? (i := 0) rfl)) (hw _ (List.mem_of_getElem? (i := 1) rfl)) (hw _ (List.mem_of_getElem? (i := 2) rfl)) e0 (g := (mkF m 0 #[.val (.int p1), .val (.int p2), .val (.int p3), .val (.int p4), .unset, .unset, .unset, .unset, .unset] [])) rfl (hb hby at_0) (by decide) (by decide)
  obtain ⟨b1, g1⟩ : ∃ z, z = h0.size := ⟨_, rfl⟩
  rw [← g1] at A1 D1 st1
  have g_b1 : n0 ≤ b1 := Nat.le_trans Z0 (Nat.le_of_eq g1.symm)
  have F_length_b1 : Fld Z h1 b1 "com/example/chaise/chaise/core/PackedInts" "length" "I" (.int (0 : Int32)) := D1 (Or.inr (hw _ (List.mem_of_getElem? (i := 14) rfl))) (ty := .int) (by decide)
  have F_bytes_b1 : Fld Z h1 b1 "com/example/chaise/chaise/core/PackedInts" "bytes" "[B" .null := D1 (Or.inl (hw _ (List.mem_of_getElem? (i := 17) rfl))) (ty := (.array .byte)) (by decide)
  have F_width_b1 : Fld Z h1 b1 "com/example/chaise/chaise/core/PackedInts" "width" "I" (.int (0 : Int32)) := D1 (Or.inl (hw _ (List.mem_of_getElem? (i := 19) rfl))) (ty := .int) (by decide)
  refine Goes.st (U' := T1.setTop (mkF m 3 #[.val (.int p1), .val (.int p2), .val (.int p3), .val (.int p4), .unset, .unset, .unset, .unset, .unset] [(.ref b1)])) (fun t k => st1 t k) ?_
  refine Goes.st (U' := T1.setTop (mkF m 4 #[.val (.int p1), .val (.int p2), .val (.int p3), .val (.int p4), .unset, .unset, .unset, .unset, .unset] [(.ref b1), (.ref b1)])) (fun t k => XS.dup X1.here hx rfl (hb hby at_3) rfl rfl k) ?_
  refine Goes.st (U' := T1.setTop (mkF m 5 #[.val (.int p1), .val (.int p2), .val (.int p3), .val (.int p4), .unset, .unset, .unset, .unset, .unset] [(.int (3 : Int32)), (.ref b1), (.ref b1)])) (fun t k => XS.iconst X1.here hx rfl (hb hby at_4) k) ?_
  obtain ⟨_, _, ⟨T2, L2, k2, n2⟩, -, X2, ⟨Lc2, hQ2, l2, y2, z2⟩, st2⟩ := X1.specialBack hx (y := (⟨"com/example/chaise/chaise/core/PackedInts", "<init>", "(I)V"⟩ : MethodName)) rfl hown (mvT hZ (hw _ (List.mem_of_getElem? (i := 3) rfl))) (mvT hZ (hw _ (List.mem_of_getElem? (i := 4) rfl))) (mvT hZ (hw _ (List.mem_of_getElem? (i := 5) rfl))) (by decide) (backOf (W := 1) (rm1 l Z a0 hw [] b1 (3 : Int32) h1 n0 (Nat.le_trans Z0 E1.1) (A1) (F_length_b1) (F_bytes_b1) (F_width_b1) (g_b1) (rfl)) hZ (hw _ (List.mem_of_getElem? (i := 5) rfl)) (hw _ (List.mem_of_getElem? (i := 2) rfl)) (by decide) (by decide)) (g := (mkF m 5 #[.val (.int p1), .val (.int p2), .val (.int p3), .val (.int p4), .unset, .unset, .unset, .unset, .unset] [(.int (3 : Int32)), (.ref b1), (.ref b1)])) rfl (by rw [hml]; rfl) (Steps.refl _) (a := b1) (argsL := [(.int (3 : Int32))]) (rest := [(.ref b1)]) (lenOf pd_4 rfl) rfl (by show 2 * 0 + _ ≤ _; exact Nat.le_of_eq rfl) (hb hby at_5) (fun _ _ => ⟨rfl, e1, (by decide : 1 + 1 ≤ _), (by decide : 3 + 9 ≤ _)⟩)
  dsimp only [Pt.U, Pt.locs, Pt.cells, Pt.slots] at X2 l2 y2 z2 st2 hQ2
  subst l2 y2 z2
  obtain ⟨rfl, N2q, K2, ar2, ka2, I2x, g_ar2⟩ := hQ2
  have N2 := Fr.app N0 N2q
  have I2 : PI Z T2.heap b1 n0 0 0 0 := Or.inl ⟨ar2, ka2, I2x, g_ar2⟩
  refine Goes.tr (U' := T2.setTop (mkF m 8 #[.val (.int p1), .val (.int p2), .val (.int p3), .val (.int p4), .unset, .unset, .unset, .unset, .unset] [(.ref b1)])) st2 ?_
  refine Goes.st (U' := T2.setTop (mkF m 10 #[.val (.int p1), .val (.int p2), .val (.int p3), .val (.int p4), .val (.ref b1), .unset, .unset, .unset, .unset] [])) (fun t k => XS.astore X2.here hx rfl (hb hby at_8) rfl rfl (l' := #[.val (.int p1), .val (.int p2), .val (.int p3), .val (.int p4), .val (.ref b1), .unset, .unset, .unset, .unset]) rfl k) ?_
  refine Goes.st (U' := T2.setTop (mkF m 11 #[.val (.int p1), .val (.int p2), .val (.int p3), .val (.int p4), .val (.ref b1), .unset, .unset, .unset, .unset] [(.int p4)])) (fun t k => XS.iloadN X2.here hx rfl (hb hby at_10) rfl k) ?_
  refine Goes.st (U' := T2.setTop (mkF m 13 #[.val (.int p1), .val (.int p2), .val (.int p3), .val (.int p4), .val (.ref b1), .unset, .unset, .unset, .unset] [(.int (2147483647 : Int32)), (.int p4)])) (fun t k => X2.ldcInt hx hown (mvT hZ (hw _ (List.mem_of_getElem? (i := 20) rfl))) (g := (mkF m 11 #[.val (.int p1), .val (.int p2), .val (.int p3), .val (.int p4), .val (.ref b1), .unset, .unset, .unset, .unset] [(.int p4)])) rfl (hb hby at_11) t k) ?_
  refine Goes.st (U' := T2.setTop (mkF m 14 #[.val (.int p1), .val (.int p2), .val (.int p3), .val (.int p4), .val (.ref b1), .unset, .unset, .unset, .unset] [(.int (p4 &&& (2147483647 : Int32)))])) (fun t k => XS.iand X2.here hx rfl (hb hby at_13) rfl k) ?_
  refine Goes.st (U' := T2.setTop (mkF m 15 #[.val (.int p1), .val (.int p2), .val (.int p3), .val (.int p4), .val (.ref b1), .unset, .unset, .unset, .unset] [(.int (3 : Int32)), (.int (p4 &&& (2147483647 : Int32)))])) (fun t k => XS.iconst X2.here hx rfl (hb hby at_14) k) ?_
  refine Goes.st (U' := T2.setTop (mkF m 16 #[.val (.int p1), .val (.int p2), .val (.int p3), .val (.int p4), .val (.ref b1), .unset, .unset, .unset, .unset] [(.int ((p4 &&& (2147483647 : Int32)) % (3 : Int32)))])) (fun t k => iremM X2 hx rfl (hb hby at_15) rfl (by decide : ¬ ((3 : Int32) = (0 : Int32))) k) ?_
  obtain ⟨nn3, hnn3⟩ : ∃ z : Int32, z = ((p4 &&& (2147483647 : Int32)) % (3 : Int32)) := ⟨_, rfl⟩
  have hcsnn3 : nn3 = (0 : Int32) ∨ nn3 = (1 : Int32) ∨ nn3 = (2 : Int32) := by rw [hnn3]; exact own_i p4
  rw [← hnn3]
  clear hnn3
  rcases hcsnn3 with rfl | rfl | rfl
  · skip
    refine Goes.st (U' := T2.setTop (mkF m 18 #[.val (.int p1), .val (.int p2), .val (.int p3), .val (.int p4), .val (.ref b1), .val (.int (0 : Int32)), .unset, .unset, .unset] [])) (fun t k => XS.istore X2.here hx rfl (hb hby at_16) rfl (l' := #[.val (.int p1), .val (.int p2), .val (.int p3), .val (.int p4), .val (.ref b1), .val (.int (0 : Int32)), .unset, .unset, .unset]) rfl k) ?_
    refine Goes.st (U' := T2.setTop (mkF m 20 #[.val (.int p1), .val (.int p2), .val (.int p3), .val (.int p4), .val (.ref b1), .val (.int (0 : Int32)), .unset, .unset, .unset] [(.int (0 : Int32))])) (fun t k => XS.iload X2.here hx rfl (hb hby at_18) rfl k) ?_
    refine Goes.st (U' := T2.setTop (mkF m 21 #[.val (.int p1), .val (.int p2), .val (.int p3), .val (.int p4), .val (.ref b1), .val (.int (0 : Int32)), .unset, .unset, .unset] [(.int (1 : Int32)), (.int (0 : Int32))])) (fun t k => XS.iconst X2.here hx rfl (hb hby at_20) k) ?_
    refine Goes.st (U' := T2.setTop (mkF m 22 #[.val (.int p1), .val (.int p2), .val (.int p3), .val (.int p4), .val (.ref b1), .val (.int (0 : Int32)), .unset, .unset, .unset] [(.int (1 : Int32))])) (fun t k => XS.iadd X2.here hx rfl (hb hby at_21) rfl k) ?_
    refine Goes.st (U' := T2.setTop (mkF m 23 #[.val (.int p1), .val (.int p2), .val (.int p3), .val (.int p4), .val (.ref b1), .val (.int (0 : Int32)), .unset, .unset, .unset] [(.int (3 : Int32)), (.int (1 : Int32))])) (fun t k => XS.iconst X2.here hx rfl (hb hby at_22) k) ?_
    refine Goes.st (U' := T2.setTop (mkF m 24 #[.val (.int p1), .val (.int p2), .val (.int p3), .val (.int p4), .val (.ref b1), .val (.int (0 : Int32)), .unset, .unset, .unset] [(.int ((1 : Int32) % (3 : Int32)))])) (fun t k => iremM X2 hx rfl (hb hby at_23) rfl (by decide : ¬ ((3 : Int32) = (0 : Int32))) k) ?_
    rw [(by decide +kernel : ((1 : Int32) % (3 : Int32)) = (1 : Int32))]
    refine Goes.st (U' := T2.setTop (mkF m 26 #[.val (.int p1), .val (.int p2), .val (.int p3), .val (.int p4), .val (.ref b1), .val (.int (0 : Int32)), .val (.int (1 : Int32)), .unset, .unset] [])) (fun t k => XS.istore X2.here hx rfl (hb hby at_24) rfl (l' := #[.val (.int p1), .val (.int p2), .val (.int p3), .val (.int p4), .val (.ref b1), .val (.int (0 : Int32)), .val (.int (1 : Int32)), .unset, .unset]) rfl k) ?_
    refine Goes.st (U' := T2.setTop (mkF m 28 #[.val (.int p1), .val (.int p2), .val (.int p3), .val (.int p4), .val (.ref b1), .val (.int (0 : Int32)), .val (.int (1 : Int32)), .unset, .unset] [(.int (0 : Int32))])) (fun t k => XS.iload X2.here hx rfl (hb hby at_26) rfl k) ?_
    refine Goes.st (U' := T2.setTop (mkF m 29 #[.val (.int p1), .val (.int p2), .val (.int p3), .val (.int p4), .val (.ref b1), .val (.int (0 : Int32)), .val (.int (1 : Int32)), .unset, .unset] [(.int (2 : Int32)), (.int (0 : Int32))])) (fun t k => XS.iconst X2.here hx rfl (hb hby at_28) k) ?_
    refine Goes.st (U' := T2.setTop (mkF m 30 #[.val (.int p1), .val (.int p2), .val (.int p3), .val (.int p4), .val (.ref b1), .val (.int (0 : Int32)), .val (.int (1 : Int32)), .unset, .unset] [(.int (2 : Int32))])) (fun t k => XS.iadd X2.here hx rfl (hb hby at_29) rfl k) ?_
    refine Goes.st (U' := T2.setTop (mkF m 31 #[.val (.int p1), .val (.int p2), .val (.int p3), .val (.int p4), .val (.ref b1), .val (.int (0 : Int32)), .val (.int (1 : Int32)), .unset, .unset] [(.int (3 : Int32)), (.int (2 : Int32))])) (fun t k => XS.iconst X2.here hx rfl (hb hby at_30) k) ?_
    refine Goes.st (U' := T2.setTop (mkF m 32 #[.val (.int p1), .val (.int p2), .val (.int p3), .val (.int p4), .val (.ref b1), .val (.int (0 : Int32)), .val (.int (1 : Int32)), .unset, .unset] [(.int ((2 : Int32) % (3 : Int32)))])) (fun t k => iremM X2 hx rfl (hb hby at_31) rfl (by decide : ¬ ((3 : Int32) = (0 : Int32))) k) ?_
    rw [(by decide +kernel : ((2 : Int32) % (3 : Int32)) = (2 : Int32))]
    refine Goes.st (U' := T2.setTop (mkF m 34 #[.val (.int p1), .val (.int p2), .val (.int p3), .val (.int p4), .val (.ref b1), .val (.int (0 : Int32)), .val (.int (1 : Int32)), .val (.int (2 : Int32)), .unset] [])) (fun t k => XS.istore X2.here hx rfl (hb hby at_32) rfl (l' := #[.val (.int p1), .val (.int p2), .val (.int p3), .val (.int p4), .val (.ref b1), .val (.int (0 : Int32)), .val (.int (1 : Int32)), .val (.int (2 : Int32)), .unset]) rfl k) ?_
    refine Goes.st (U' := T2.setTop (mkF m 36 #[.val (.int p1), .val (.int p2), .val (.int p3), .val (.int p4), .val (.ref b1), .val (.int (0 : Int32)), .val (.int (1 : Int32)), .val (.int (2 : Int32)), .unset] [(.ref b1)])) (fun t k => XS.aload X2.here hx rfl (hb hby at_34) rfl rfl k) ?_
    refine Goes.st (U' := T2.setTop (mkF m 38 #[.val (.int p1), .val (.int p2), .val (.int p3), .val (.int p4), .val (.ref b1), .val (.int (0 : Int32)), .val (.int (1 : Int32)), .val (.int (2 : Int32)), .unset] [(.int (1 : Int32)), (.ref b1)])) (fun t k => XS.iload X2.here hx rfl (hb hby at_36) rfl k) ?_
    obtain ⟨cq4, kq4, q4a, q4b, q4c⟩ := isOf hZ rfl (PI_exa I2)
    obtain ⟨_, _, ⟨T4, L4, k4, n4⟩, -, X4, ⟨Lc4, hQ4, l4, y4, z4⟩, st4⟩ := X2.virtualBack hx (y := (⟨"com/example/chaise/chaise/core/PackedInts", "get", "(I)I"⟩ : MethodName)) (z := (⟨"com/example/chaise/chaise/core/PackedInts", "get", "(I)I"⟩ : MethodName)) hown (mvT hZ (hw _ (List.mem_of_getElem? (i := 21) rfl))) (mvT hZ (hw _ (List.mem_of_getElem? (i := 22) rfl))) (notFace_of_selects (args := #[]) (mvT hZ (hw _ (List.mem_of_getElem? (i := 24) rfl)))) (mvT hZ (hw _ (List.mem_of_getElem? (i := 24) rfl))) (mvT hZ (hw _ (List.mem_of_getElem? (i := 23) rfl))) (by decide) (backOf (W := 0) (rmG1 l Z a0 hw [] b1 (1 : Int32) (0 : Int32) (0 : Int32) (0 : Int32) T2.heap n0 (Nat.le_trans (Nat.le_trans Z0 E1.1) K2.1) (I2) (rfl)) hZ (hw _ (List.mem_of_getElem? (i := 25) rfl)) (hw _ (List.mem_of_getElem? (i := 2) rfl)) (by decide) (by decide)) q4a q4c (g := (mkF m 38 #[.val (.int p1), .val (.int p2), .val (.int p3), .val (.int p4), .val (.ref b1), .val (.int (0 : Int32)), .val (.int (1 : Int32)), .val (.int (2 : Int32)), .unset] [(.int (1 : Int32)), (.ref b1)])) rfl (by rw [hml]; rfl) (Steps.refl _) (argsL := [(.int (1 : Int32))]) (rest := []) (lenOf pd_1 rfl) rfl (by show 2 * 0 + _ ≤ _; exact Nat.le_of_eq rfl) (hb hby at_38) (fun _ _ => ⟨rfl, rfl, (by decide : 2 + 0 ≤ _), (by decide : 12 + 0 ≤ _)⟩)
    dsimp only [Pt.U, Pt.locs, Pt.cells, Pt.slots] at X4 l4 y4 z4 st4 hQ4
    subst l4 y4 z4
    obtain ⟨rfl, N4q, e4⟩ := hQ4
    have N4 := Fr.app N2 N4q
    refine Goes.tr (U' := T4.setTop (mkF m 41 #[.val (.int p1), .val (.int p2), .val (.int p3), .val (.int p4), .val (.ref b1), .val (.int (0 : Int32)), .val (.int (1 : Int32)), .val (.int (2 : Int32)), .unset] [(.int (0 : Int32))])) st4 ?_
    refine Goes.st (U' := T4.setTop (mkF m 44 #[.val (.int p1), .val (.int p2), .val (.int p3), .val (.int p4), .val (.ref b1), .val (.int (0 : Int32)), .val (.int (1 : Int32)), .val (.int (2 : Int32)), .unset] [])) (fun t k => XS.ifNo X4.here hx rfl (hb hby at_41) rfl ((if0 _ _).trans (teq (rfl : (0 : Int32) = (0 : Int32))).2) k) ?_
    refine Goes.st (U' := T4.setTop (mkF m 45 #[.val (.int p1), .val (.int p2), .val (.int p3), .val (.int p4), .val (.ref b1), .val (.int (0 : Int32)), .val (.int (1 : Int32)), .val (.int (2 : Int32)), .unset] [(.int (1 : Int32))])) (fun t k => XS.iconst X4.here hx rfl (hb hby at_44) k) ?_
    refine Goes.st (U' := T4.setTop (mkF m 49 #[.val (.int p1), .val (.int p2), .val (.int p3), .val (.int p4), .val (.ref b1), .val (.int (0 : Int32)), .val (.int (1 : Int32)), .val (.int (2 : Int32)), .unset] [(.int (1 : Int32))])) (fun t k => XS.goto X4.here hx rfl (pc0 := 45) (pc' := 49) rfl (hb hby at_45) (by decide) (by decide) k) ?_
    refine Goes.st (U' := T4.setTop (mkF m 51 #[.val (.int p1), .val (.int p2), .val (.int p3), .val (.int p4), .val (.ref b1), .val (.int (0 : Int32)), .val (.int (1 : Int32)), .val (.int (2 : Int32)), .val (.int (1 : Int32))] [])) (fun t k => XS.istore X4.here hx rfl (hb hby at_49) rfl (l' := #[.val (.int p1), .val (.int p2), .val (.int p3), .val (.int p4), .val (.ref b1), .val (.int (0 : Int32)), .val (.int (1 : Int32)), .val (.int (2 : Int32)), .val (.int (1 : Int32))]) rfl k) ?_
    refine Goes.st (U' := T4.setTop (mkF m 53 #[.val (.int p1), .val (.int p2), .val (.int p3), .val (.int p4), .val (.ref b1), .val (.int (0 : Int32)), .val (.int (1 : Int32)), .val (.int (2 : Int32)), .val (.int (1 : Int32))] [(.ref b1)])) (fun t k => XS.aload X4.here hx rfl (hb hby at_51) rfl rfl k) ?_
    refine Goes.st (U' := T4.setTop (mkF m 55 #[.val (.int p1), .val (.int p2), .val (.int p3), .val (.int p4), .val (.ref b1), .val (.int (0 : Int32)), .val (.int (1 : Int32)), .val (.int (2 : Int32)), .val (.int (1 : Int32))] [(.int (0 : Int32)), (.ref b1)])) (fun t k => XS.iload X4.here hx rfl (hb hby at_53) rfl k) ?_
    refine Goes.st (U' := T4.setTop (mkF m 56 #[.val (.int p1), .val (.int p2), .val (.int p3), .val (.int p4), .val (.ref b1), .val (.int (0 : Int32)), .val (.int (1 : Int32)), .val (.int (2 : Int32)), .val (.int (1 : Int32))] [(.int p1), (.int (0 : Int32)), (.ref b1)])) (fun t k => XS.iloadN X4.here hx rfl (hb hby at_55) rfl k) ?_
    obtain ⟨cq5, kq5, q5a, q5b, q5c⟩ := isOf hZ e4 (PI_exa I2)
    obtain ⟨_, _, ⟨T5, L5, k5, n5⟩, -, X5, ⟨Lc5, hQ5, l5, y5, z5⟩, st5⟩ := X4.virtualBack hx (y := (⟨"com/example/chaise/chaise/core/PackedInts", "set", "(II)V"⟩ : MethodName)) (z := (⟨"com/example/chaise/chaise/core/PackedInts", "set", "(II)V"⟩ : MethodName)) hown (mvT hZ (hw _ (List.mem_of_getElem? (i := 26) rfl))) (mvT hZ (hw _ (List.mem_of_getElem? (i := 27) rfl))) (notFace_of_selects (args := #[]) (mvT hZ (hw _ (List.mem_of_getElem? (i := 29) rfl)))) (mvT hZ (hw _ (List.mem_of_getElem? (i := 29) rfl))) (mvT hZ (hw _ (List.mem_of_getElem? (i := 28) rfl))) (by decide) (backOf (W := 0) (rmS0 l Z a0 hw [] b1 (0 : Int32) p1 (0 : Int32) (0 : Int32) (0 : Int32) T2.heap n0 (Nat.le_trans (Nat.le_trans Z0 E1.1) K2.1) (I2) (rfl) (g_b1)) hZ (hw _ (List.mem_of_getElem? (i := 30) rfl)) (hw _ (List.mem_of_getElem? (i := 2) rfl)) (by decide) (by decide)) q5a q5c (g := (mkF m 56 #[.val (.int p1), .val (.int p2), .val (.int p3), .val (.int p4), .val (.ref b1), .val (.int (0 : Int32)), .val (.int (1 : Int32)), .val (.int (2 : Int32)), .val (.int (1 : Int32))] [(.int p1), (.int (0 : Int32)), (.ref b1)])) rfl (by rw [hml]; rfl) (Steps.refl _) (argsL := [(.int (0 : Int32)), (.int p1)]) (rest := []) (lenOf pd_0 rfl) rfl (by show 2 * 0 + _ ≤ _; exact Nat.le_of_eq rfl) (hb hby at_56) (fun _ _ => ⟨rfl, e4, (by decide : 2 + 2 ≤ _), (by decide : 12 + 15 ≤ _)⟩)
    dsimp only [Pt.U, Pt.locs, Pt.cells, Pt.slots] at X5 l5 y5 z5 st5 hQ5
    subst l5 y5 z5
    obtain ⟨rfl, N5q, Z5, I5⟩ := hQ5
    have N5 := Fr.app N4 N5q
    refine Goes.tr (U' := T5.setTop (mkF m 59 #[.val (.int p1), .val (.int p2), .val (.int p3), .val (.int p4), .val (.ref b1), .val (.int (0 : Int32)), .val (.int (1 : Int32)), .val (.int (2 : Int32)), .val (.int (1 : Int32))] [])) st5 ?_
    refine Goes.st (U' := T5.setTop (mkF m 61 #[.val (.int p1), .val (.int p2), .val (.int p3), .val (.int p4), .val (.ref b1), .val (.int (0 : Int32)), .val (.int (1 : Int32)), .val (.int (2 : Int32)), .val (.int (1 : Int32))] [(.int (1 : Int32))])) (fun t k => XS.iload X5.here hx rfl (hb hby at_59) rfl k) ?_
    refine Goes.st (U' := T5.setTop (mkF m 64 #[.val (.int p1), .val (.int p2), .val (.int p3), .val (.int p4), .val (.ref b1), .val (.int (0 : Int32)), .val (.int (1 : Int32)), .val (.int (2 : Int32)), .val (.int (1 : Int32))] [])) (fun t k => XS.ifNo X5.here hx rfl (hb hby at_61) rfl ((if0 _ _).trans (feq (by decide : ¬ ((1 : Int32) = (0 : Int32)))).1) k) ?_
    refine Goes.st (U' := T5.setTop (mkF m 66 #[.val (.int p1), .val (.int p2), .val (.int p3), .val (.int p4), .val (.ref b1), .val (.int (0 : Int32)), .val (.int (1 : Int32)), .val (.int (2 : Int32)), .val (.int (1 : Int32))] [(.ref b1)])) (fun t k => XS.aload X5.here hx rfl (hb hby at_64) rfl rfl k) ?_
    refine Goes.st (U' := T5.setTop (mkF m 68 #[.val (.int p1), .val (.int p2), .val (.int p3), .val (.int p4), .val (.ref b1), .val (.int (0 : Int32)), .val (.int (1 : Int32)), .val (.int (2 : Int32)), .val (.int (1 : Int32))] [(.int (0 : Int32)), (.ref b1)])) (fun t k => XS.iload X5.here hx rfl (hb hby at_66) rfl k) ?_
    obtain ⟨cq6, kq6, q6a, q6b, q6c⟩ := isOf hZ rfl (PI_exa I5)
    obtain ⟨_, _, ⟨T6, L6, k6, n6⟩, -, X6, ⟨Lc6, hQ6, l6, y6, z6⟩, st6⟩ := X5.virtualBack hx (y := (⟨"com/example/chaise/chaise/core/PackedInts", "get", "(I)I"⟩ : MethodName)) (z := (⟨"com/example/chaise/chaise/core/PackedInts", "get", "(I)I"⟩ : MethodName)) hown (mvT hZ (hw _ (List.mem_of_getElem? (i := 21) rfl))) (mvT hZ (hw _ (List.mem_of_getElem? (i := 22) rfl))) (notFace_of_selects (args := #[]) (mvT hZ (hw _ (List.mem_of_getElem? (i := 24) rfl)))) (mvT hZ (hw _ (List.mem_of_getElem? (i := 24) rfl))) (mvT hZ (hw _ (List.mem_of_getElem? (i := 23) rfl))) (by decide) (backOf (W := 0) (rmG0 l Z a0 hw [] b1 (0 : Int32) p1 (0 : Int32) (0 : Int32) T5.heap n0 Z5 (I5) (rfl)) hZ (hw _ (List.mem_of_getElem? (i := 25) rfl)) (hw _ (List.mem_of_getElem? (i := 2) rfl)) (by decide) (by decide)) q6a q6c (g := (mkF m 68 #[.val (.int p1), .val (.int p2), .val (.int p3), .val (.int p4), .val (.ref b1), .val (.int (0 : Int32)), .val (.int (1 : Int32)), .val (.int (2 : Int32)), .val (.int (1 : Int32))] [(.int (0 : Int32)), (.ref b1)])) rfl (by rw [hml]; rfl) (Steps.refl _) (argsL := [(.int (0 : Int32))]) (rest := []) (lenOf pd_1 rfl) rfl (by show 2 * 0 + _ ≤ _; exact Nat.le_of_eq rfl) (hb hby at_68) (fun _ _ => ⟨rfl, rfl, (by decide : 4 + 0 ≤ _), (by decide : 27 + 0 ≤ _)⟩)
    dsimp only [Pt.U, Pt.locs, Pt.cells, Pt.slots] at X6 l6 y6 z6 st6 hQ6
    subst l6 y6 z6
    obtain ⟨rfl, N6q, e6⟩ := hQ6
    have N6 := Fr.app N5 N6q
    refine Goes.tr (U' := T6.setTop (mkF m 71 #[.val (.int p1), .val (.int p2), .val (.int p3), .val (.int p4), .val (.ref b1), .val (.int (0 : Int32)), .val (.int (1 : Int32)), .val (.int (2 : Int32)), .val (.int (1 : Int32))] [(.int p1)])) st6 ?_
    refine Goes.st (U' := T6.setTop (mkF m 72 #[.val (.int p1), .val (.int p2), .val (.int p3), .val (.int p4), .val (.ref b1), .val (.int (0 : Int32)), .val (.int (1 : Int32)), .val (.int (2 : Int32)), .val (.int (1 : Int32))] [(.int p1), (.int p1)])) (fun t k => XS.iloadN X6.here hx rfl (hb hby at_71) rfl k) ?_
    refine Goes.st (U' := T6.setTop (mkF m 75 #[.val (.int p1), .val (.int p2), .val (.int p3), .val (.int p4), .val (.ref b1), .val (.int (0 : Int32)), .val (.int (1 : Int32)), .val (.int (2 : Int32)), .val (.int (1 : Int32))] [])) (fun t k => XS.icmpNo X6.here hx rfl (hb hby at_72) rfl (teq (rfl : p1 = p1)).2 k) ?_
    refine Goes.st (U' := T6.setTop (mkF m 77 #[.val (.int p1), .val (.int p2), .val (.int p3), .val (.int p4), .val (.ref b1), .val (.int (0 : Int32)), .val (.int (1 : Int32)), .val (.int (2 : Int32)), .val (.int (1 : Int32))] [(.ref b1)])) (fun t k => XS.aload X6.here hx rfl (hb hby at_75) rfl rfl k) ?_
    refine Goes.st (U' := T6.setTop (mkF m 79 #[.val (.int p1), .val (.int p2), .val (.int p3), .val (.int p4), .val (.ref b1), .val (.int (0 : Int32)), .val (.int (1 : Int32)), .val (.int (2 : Int32)), .val (.int (1 : Int32))] [(.int (1 : Int32)), (.ref b1)])) (fun t k => XS.iload X6.here hx rfl (hb hby at_77) rfl k) ?_
    obtain ⟨cq7, kq7, q7a, q7b, q7c⟩ := isOf hZ e6 (PI_exa I5)
    obtain ⟨_, _, ⟨T7, L7, k7, n7⟩, -, X7, ⟨Lc7, hQ7, l7, y7, z7⟩, st7⟩ := X6.virtualBack hx (y := (⟨"com/example/chaise/chaise/core/PackedInts", "get", "(I)I"⟩ : MethodName)) (z := (⟨"com/example/chaise/chaise/core/PackedInts", "get", "(I)I"⟩ : MethodName)) hown (mvT hZ (hw _ (List.mem_of_getElem? (i := 21) rfl))) (mvT hZ (hw _ (List.mem_of_getElem? (i := 22) rfl))) (notFace_of_selects (args := #[]) (mvT hZ (hw _ (List.mem_of_getElem? (i := 24) rfl)))) (mvT hZ (hw _ (List.mem_of_getElem? (i := 24) rfl))) (mvT hZ (hw _ (List.mem_of_getElem? (i := 23) rfl))) (by decide) (backOf (W := 0) (rmG1 l Z a0 hw [] b1 (1 : Int32) p1 (0 : Int32) (0 : Int32) T5.heap n0 Z5 (I5) (rfl)) hZ (hw _ (List.mem_of_getElem? (i := 25) rfl)) (hw _ (List.mem_of_getElem? (i := 2) rfl)) (by decide) (by decide)) q7a q7c (g := (mkF m 79 #[.val (.int p1), .val (.int p2), .val (.int p3), .val (.int p4), .val (.ref b1), .val (.int (0 : Int32)), .val (.int (1 : Int32)), .val (.int (2 : Int32)), .val (.int (1 : Int32))] [(.int (1 : Int32)), (.ref b1)])) rfl (by rw [hml]; rfl) (Steps.refl _) (argsL := [(.int (1 : Int32))]) (rest := []) (lenOf pd_1 rfl) rfl (by show 2 * 0 + _ ≤ _; exact Nat.le_of_eq rfl) (hb hby at_79) (fun _ _ => ⟨rfl, e6, (by decide : 4 + 0 ≤ _), (by decide : 27 + 0 ≤ _)⟩)
    dsimp only [Pt.U, Pt.locs, Pt.cells, Pt.slots] at X7 l7 y7 z7 st7 hQ7
    subst l7 y7 z7
    obtain ⟨rfl, N7q, e7⟩ := hQ7
    have N7 := Fr.app N6 N7q
    refine Goes.tr (U' := T7.setTop (mkF m 82 #[.val (.int p1), .val (.int p2), .val (.int p3), .val (.int p4), .val (.ref b1), .val (.int (0 : Int32)), .val (.int (1 : Int32)), .val (.int (2 : Int32)), .val (.int (1 : Int32))] [(.int (0 : Int32))])) st7 ?_
    refine Goes.st (U' := T7.setTop (mkF m 85 #[.val (.int p1), .val (.int p2), .val (.int p3), .val (.int p4), .val (.ref b1), .val (.int (0 : Int32)), .val (.int (1 : Int32)), .val (.int (2 : Int32)), .val (.int (1 : Int32))] [])) (fun t k => XS.ifNo X7.here hx rfl (hb hby at_82) rfl ((if0 _ _).trans (teq (rfl : (0 : Int32) = (0 : Int32))).2) k) ?_
    refine Goes.st (U' := T7.setTop (mkF m 86 #[.val (.int p1), .val (.int p2), .val (.int p3), .val (.int p4), .val (.ref b1), .val (.int (0 : Int32)), .val (.int (1 : Int32)), .val (.int (2 : Int32)), .val (.int (1 : Int32))] [(.int (1 : Int32))])) (fun t k => XS.iconst X7.here hx rfl (hb hby at_85) k) ?_
    refine Goes.st (U' := T7.setTop (mkF m 90 #[.val (.int p1), .val (.int p2), .val (.int p3), .val (.int p4), .val (.ref b1), .val (.int (0 : Int32)), .val (.int (1 : Int32)), .val (.int (2 : Int32)), .val (.int (1 : Int32))] [(.int (1 : Int32))])) (fun t k => XS.goto X7.here hx rfl (pc0 := 86) (pc' := 90) rfl (hb hby at_86) (by decide) (by decide) k) ?_
    refine Goes.st (U' := T7.setTop (mkF m 92 #[.val (.int p1), .val (.int p2), .val (.int p3), .val (.int p4), .val (.ref b1), .val (.int (0 : Int32)), .val (.int (1 : Int32)), .val (.int (2 : Int32)), .val (.int (1 : Int32))] [])) (fun t k => XS.istore X7.here hx rfl (hb hby at_90) rfl (l' := #[.val (.int p1), .val (.int p2), .val (.int p3), .val (.int p4), .val (.ref b1), .val (.int (0 : Int32)), .val (.int (1 : Int32)), .val (.int (2 : Int32)), .val (.int (1 : Int32))]) rfl k) ?_
    refine Goes.st (U' := T7.setTop (mkF m 94 #[.val (.int p1), .val (.int p2), .val (.int p3), .val (.int p4), .val (.ref b1), .val (.int (0 : Int32)), .val (.int (1 : Int32)), .val (.int (2 : Int32)), .val (.int (1 : Int32))] [(.ref b1)])) (fun t k => XS.aload X7.here hx rfl (hb hby at_92) rfl rfl k) ?_
    refine Goes.st (U' := T7.setTop (mkF m 96 #[.val (.int p1), .val (.int p2), .val (.int p3), .val (.int p4), .val (.ref b1), .val (.int (0 : Int32)), .val (.int (1 : Int32)), .val (.int (2 : Int32)), .val (.int (1 : Int32))] [(.int (1 : Int32)), (.ref b1)])) (fun t k => XS.iload X7.here hx rfl (hb hby at_94) rfl k) ?_
    refine Goes.st (U' := T7.setTop (mkF m 97 #[.val (.int p1), .val (.int p2), .val (.int p3), .val (.int p4), .val (.ref b1), .val (.int (0 : Int32)), .val (.int (1 : Int32)), .val (.int (2 : Int32)), .val (.int (1 : Int32))] [(.int p2), (.int (1 : Int32)), (.ref b1)])) (fun t k => XS.iloadN X7.here hx rfl (hb hby at_96) rfl k) ?_
    obtain ⟨cq8, kq8, q8a, q8b, q8c⟩ := isOf hZ e7 (PI_exa I5)
    obtain ⟨_, _, ⟨T8, L8, k8, n8⟩, -, X8, ⟨Lc8, hQ8, l8, y8, z8⟩, st8⟩ := X7.virtualBack hx (y := (⟨"com/example/chaise/chaise/core/PackedInts", "set", "(II)V"⟩ : MethodName)) (z := (⟨"com/example/chaise/chaise/core/PackedInts", "set", "(II)V"⟩ : MethodName)) hown (mvT hZ (hw _ (List.mem_of_getElem? (i := 26) rfl))) (mvT hZ (hw _ (List.mem_of_getElem? (i := 27) rfl))) (notFace_of_selects (args := #[]) (mvT hZ (hw _ (List.mem_of_getElem? (i := 29) rfl)))) (mvT hZ (hw _ (List.mem_of_getElem? (i := 29) rfl))) (mvT hZ (hw _ (List.mem_of_getElem? (i := 28) rfl))) (by decide) (backOf (W := 0) (rmS1 l Z a0 hw [] b1 (1 : Int32) p2 p1 (0 : Int32) (0 : Int32) T5.heap n0 Z5 (I5) (rfl) (g_b1)) hZ (hw _ (List.mem_of_getElem? (i := 30) rfl)) (hw _ (List.mem_of_getElem? (i := 2) rfl)) (by decide) (by decide)) q8a q8c (g := (mkF m 97 #[.val (.int p1), .val (.int p2), .val (.int p3), .val (.int p4), .val (.ref b1), .val (.int (0 : Int32)), .val (.int (1 : Int32)), .val (.int (2 : Int32)), .val (.int (1 : Int32))] [(.int p2), (.int (1 : Int32)), (.ref b1)])) rfl (by rw [hml]; rfl) (Steps.refl _) (argsL := [(.int (1 : Int32)), (.int p2)]) (rest := []) (lenOf pd_0 rfl) rfl (by show 2 * 0 + _ ≤ _; exact Nat.le_of_eq rfl) (hb hby at_97) (fun _ _ => ⟨rfl, e7, (by decide : 4 + 2 ≤ _), (by decide : 27 + 15 ≤ _)⟩)
    dsimp only [Pt.U, Pt.locs, Pt.cells, Pt.slots] at X8 l8 y8 z8 st8 hQ8
    subst l8 y8 z8
    obtain ⟨rfl, N8q, Z8, I8⟩ := hQ8
    have N8 := Fr.app N7 N8q
    refine Goes.tr (U' := T8.setTop (mkF m 100 #[.val (.int p1), .val (.int p2), .val (.int p3), .val (.int p4), .val (.ref b1), .val (.int (0 : Int32)), .val (.int (1 : Int32)), .val (.int (2 : Int32)), .val (.int (1 : Int32))] [])) st8 ?_
    refine Goes.st (U' := T8.setTop (mkF m 102 #[.val (.int p1), .val (.int p2), .val (.int p3), .val (.int p4), .val (.ref b1), .val (.int (0 : Int32)), .val (.int (1 : Int32)), .val (.int (2 : Int32)), .val (.int (1 : Int32))] [(.ref b1)])) (fun t k => XS.aload X8.here hx rfl (hb hby at_100) rfl rfl k) ?_
    refine Goes.st (U' := T8.setTop (mkF m 104 #[.val (.int p1), .val (.int p2), .val (.int p3), .val (.int p4), .val (.ref b1), .val (.int (0 : Int32)), .val (.int (1 : Int32)), .val (.int (2 : Int32)), .val (.int (1 : Int32))] [(.int (2 : Int32)), (.ref b1)])) (fun t k => XS.iload X8.here hx rfl (hb hby at_102) rfl k) ?_
    refine Goes.st (U' := T8.setTop (mkF m 105 #[.val (.int p1), .val (.int p2), .val (.int p3), .val (.int p4), .val (.ref b1), .val (.int (0 : Int32)), .val (.int (1 : Int32)), .val (.int (2 : Int32)), .val (.int (1 : Int32))] [(.int p3), (.int (2 : Int32)), (.ref b1)])) (fun t k => XS.iloadN X8.here hx rfl (hb hby at_104) rfl k) ?_
    obtain ⟨cq9, kq9, q9a, q9b, q9c⟩ := isOf hZ rfl (PI_exa I8)
    obtain ⟨_, _, ⟨T9, L9, k9, n9⟩, -, X9, ⟨Lc9, hQ9, l9, y9, z9⟩, st9⟩ := X8.virtualBack hx (y := (⟨"com/example/chaise/chaise/core/PackedInts", "set", "(II)V"⟩ : MethodName)) (z := (⟨"com/example/chaise/chaise/core/PackedInts", "set", "(II)V"⟩ : MethodName)) hown (mvT hZ (hw _ (List.mem_of_getElem? (i := 26) rfl))) (mvT hZ (hw _ (List.mem_of_getElem? (i := 27) rfl))) (notFace_of_selects (args := #[]) (mvT hZ (hw _ (List.mem_of_getElem? (i := 29) rfl)))) (mvT hZ (hw _ (List.mem_of_getElem? (i := 29) rfl))) (mvT hZ (hw _ (List.mem_of_getElem? (i := 28) rfl))) (by decide) (backOf (W := 0) (rmS2 l Z a0 hw [] b1 (2 : Int32) p3 p1 p2 (0 : Int32) T8.heap n0 Z8 (I8) (rfl) (g_b1)) hZ (hw _ (List.mem_of_getElem? (i := 30) rfl)) (hw _ (List.mem_of_getElem? (i := 2) rfl)) (by decide) (by decide)) q9a q9c (g := (mkF m 105 #[.val (.int p1), .val (.int p2), .val (.int p3), .val (.int p4), .val (.ref b1), .val (.int (0 : Int32)), .val (.int (1 : Int32)), .val (.int (2 : Int32)), .val (.int (1 : Int32))] [(.int p3), (.int (2 : Int32)), (.ref b1)])) rfl (by rw [hml]; rfl) (Steps.refl _) (argsL := [(.int (2 : Int32)), (.int p3)]) (rest := []) (lenOf pd_0 rfl) rfl (by show 2 * 0 + _ ≤ _; exact Nat.le_of_eq rfl) (hb hby at_105) (fun _ _ => ⟨rfl, rfl, (by decide : 6 + 2 ≤ _), (by decide : 42 + 15 ≤ _)⟩)
    dsimp only [Pt.U, Pt.locs, Pt.cells, Pt.slots] at X9 l9 y9 z9 st9 hQ9
    subst l9 y9 z9
    obtain ⟨rfl, N9q, Z9, I9⟩ := hQ9
    have N9 := Fr.app N8 N9q
    refine Goes.tr (U' := T9.setTop (mkF m 108 #[.val (.int p1), .val (.int p2), .val (.int p3), .val (.int p4), .val (.ref b1), .val (.int (0 : Int32)), .val (.int (1 : Int32)), .val (.int (2 : Int32)), .val (.int (1 : Int32))] [])) st9 ?_
    refine Goes.st (U' := T9.setTop (mkF m 110 #[.val (.int p1), .val (.int p2), .val (.int p3), .val (.int p4), .val (.ref b1), .val (.int (0 : Int32)), .val (.int (1 : Int32)), .val (.int (2 : Int32)), .val (.int (1 : Int32))] [(.int (1 : Int32))])) (fun t k => XS.iload X9.here hx rfl (hb hby at_108) rfl k) ?_
    refine Goes.st (U' := T9.setTop (mkF m 113 #[.val (.int p1), .val (.int p2), .val (.int p3), .val (.int p4), .val (.ref b1), .val (.int (0 : Int32)), .val (.int (1 : Int32)), .val (.int (2 : Int32)), .val (.int (1 : Int32))] [])) (fun t k => XS.ifNo X9.here hx rfl (hb hby at_110) rfl ((if0 _ _).trans (feq (by decide : ¬ ((1 : Int32) = (0 : Int32)))).1) k) ?_
    refine Goes.st (U' := T9.setTop (mkF m 115 #[.val (.int p1), .val (.int p2), .val (.int p3), .val (.int p4), .val (.ref b1), .val (.int (0 : Int32)), .val (.int (1 : Int32)), .val (.int (2 : Int32)), .val (.int (1 : Int32))] [(.ref b1)])) (fun t k => XS.aload X9.here hx rfl (hb hby at_113) rfl rfl k) ?_
    refine Goes.st (U' := T9.setTop (mkF m 117 #[.val (.int p1), .val (.int p2), .val (.int p3), .val (.int p4), .val (.ref b1), .val (.int (0 : Int32)), .val (.int (1 : Int32)), .val (.int (2 : Int32)), .val (.int (1 : Int32))] [(.int (0 : Int32)), (.ref b1)])) (fun t k => XS.iload X9.here hx rfl (hb hby at_115) rfl k) ?_
    obtain ⟨cq10, kq10, q10a, q10b, q10c⟩ := isOf hZ rfl (PI_exa I9)
    obtain ⟨_, _, ⟨T10, L10, k10, n10⟩, -, X10, ⟨Lc10, hQ10, l10, y10, z10⟩, st10⟩ := X9.virtualBack hx (y := (⟨"com/example/chaise/chaise/core/PackedInts", "get", "(I)I"⟩ : MethodName)) (z := (⟨"com/example/chaise/chaise/core/PackedInts", "get", "(I)I"⟩ : MethodName)) hown (mvT hZ (hw _ (List.mem_of_getElem? (i := 21) rfl))) (mvT hZ (hw _ (List.mem_of_getElem? (i := 22) rfl))) (notFace_of_selects (args := #[]) (mvT hZ (hw _ (List.mem_of_getElem? (i := 24) rfl)))) (mvT hZ (hw _ (List.mem_of_getElem? (i := 24) rfl))) (mvT hZ (hw _ (List.mem_of_getElem? (i := 23) rfl))) (by decide) (backOf (W := 0) (rmG0 l Z a0 hw [] b1 (0 : Int32) p1 p2 p3 T9.heap n0 Z9 (I9) (rfl)) hZ (hw _ (List.mem_of_getElem? (i := 25) rfl)) (hw _ (List.mem_of_getElem? (i := 2) rfl)) (by decide) (by decide)) q10a q10c (g := (mkF m 117 #[.val (.int p1), .val (.int p2), .val (.int p3), .val (.int p4), .val (.ref b1), .val (.int (0 : Int32)), .val (.int (1 : Int32)), .val (.int (2 : Int32)), .val (.int (1 : Int32))] [(.int (0 : Int32)), (.ref b1)])) rfl (by rw [hml]; rfl) (Steps.refl _) (argsL := [(.int (0 : Int32))]) (rest := []) (lenOf pd_1 rfl) rfl (by show 2 * 0 + _ ≤ _; exact Nat.le_of_eq rfl) (hb hby at_117) (fun _ _ => ⟨rfl, rfl, (by decide : 8 + 0 ≤ _), (by decide : 57 + 0 ≤ _)⟩)
    dsimp only [Pt.U, Pt.locs, Pt.cells, Pt.slots] at X10 l10 y10 z10 st10 hQ10
    subst l10 y10 z10
    obtain ⟨rfl, N10q, e10⟩ := hQ10
    have N10 := Fr.app N9 N10q
    refine Goes.tr (U' := T10.setTop (mkF m 120 #[.val (.int p1), .val (.int p2), .val (.int p3), .val (.int p4), .val (.ref b1), .val (.int (0 : Int32)), .val (.int (1 : Int32)), .val (.int (2 : Int32)), .val (.int (1 : Int32))] [(.int p1)])) st10 ?_
    refine Goes.st (U' := T10.setTop (mkF m 121 #[.val (.int p1), .val (.int p2), .val (.int p3), .val (.int p4), .val (.ref b1), .val (.int (0 : Int32)), .val (.int (1 : Int32)), .val (.int (2 : Int32)), .val (.int (1 : Int32))] [(.int p1), (.int p1)])) (fun t k => XS.iloadN X10.here hx rfl (hb hby at_120) rfl k) ?_
    refine Goes.st (U' := T10.setTop (mkF m 124 #[.val (.int p1), .val (.int p2), .val (.int p3), .val (.int p4), .val (.ref b1), .val (.int (0 : Int32)), .val (.int (1 : Int32)), .val (.int (2 : Int32)), .val (.int (1 : Int32))] [])) (fun t k => XS.icmpNo X10.here hx rfl (hb hby at_121) rfl (teq (rfl : p1 = p1)).2 k) ?_
    refine Goes.st (U' := T10.setTop (mkF m 126 #[.val (.int p1), .val (.int p2), .val (.int p3), .val (.int p4), .val (.ref b1), .val (.int (0 : Int32)), .val (.int (1 : Int32)), .val (.int (2 : Int32)), .val (.int (1 : Int32))] [(.ref b1)])) (fun t k => XS.aload X10.here hx rfl (hb hby at_124) rfl rfl k) ?_
    refine Goes.st (U' := T10.setTop (mkF m 128 #[.val (.int p1), .val (.int p2), .val (.int p3), .val (.int p4), .val (.ref b1), .val (.int (0 : Int32)), .val (.int (1 : Int32)), .val (.int (2 : Int32)), .val (.int (1 : Int32))] [(.int (1 : Int32)), (.ref b1)])) (fun t k => XS.iload X10.here hx rfl (hb hby at_126) rfl k) ?_
    obtain ⟨cq11, kq11, q11a, q11b, q11c⟩ := isOf hZ e10 (PI_exa I9)
    obtain ⟨_, _, ⟨T11, L11, k11, n11⟩, -, X11, ⟨Lc11, hQ11, l11, y11, z11⟩, st11⟩ := X10.virtualBack hx (y := (⟨"com/example/chaise/chaise/core/PackedInts", "get", "(I)I"⟩ : MethodName)) (z := (⟨"com/example/chaise/chaise/core/PackedInts", "get", "(I)I"⟩ : MethodName)) hown (mvT hZ (hw _ (List.mem_of_getElem? (i := 21) rfl))) (mvT hZ (hw _ (List.mem_of_getElem? (i := 22) rfl))) (notFace_of_selects (args := #[]) (mvT hZ (hw _ (List.mem_of_getElem? (i := 24) rfl)))) (mvT hZ (hw _ (List.mem_of_getElem? (i := 24) rfl))) (mvT hZ (hw _ (List.mem_of_getElem? (i := 23) rfl))) (by decide) (backOf (W := 0) (rmG1 l Z a0 hw [] b1 (1 : Int32) p1 p2 p3 T9.heap n0 Z9 (I9) (rfl)) hZ (hw _ (List.mem_of_getElem? (i := 25) rfl)) (hw _ (List.mem_of_getElem? (i := 2) rfl)) (by decide) (by decide)) q11a q11c (g := (mkF m 128 #[.val (.int p1), .val (.int p2), .val (.int p3), .val (.int p4), .val (.ref b1), .val (.int (0 : Int32)), .val (.int (1 : Int32)), .val (.int (2 : Int32)), .val (.int (1 : Int32))] [(.int (1 : Int32)), (.ref b1)])) rfl (by rw [hml]; rfl) (Steps.refl _) (argsL := [(.int (1 : Int32))]) (rest := []) (lenOf pd_1 rfl) rfl (by show 2 * 0 + _ ≤ _; exact Nat.le_of_eq rfl) (hb hby at_128) (fun _ _ => ⟨rfl, e10, (by decide : 8 + 0 ≤ _), (by decide : 57 + 0 ≤ _)⟩)
    dsimp only [Pt.U, Pt.locs, Pt.cells, Pt.slots] at X11 l11 y11 z11 st11 hQ11
    subst l11 y11 z11
    obtain ⟨rfl, N11q, e11⟩ := hQ11
    have N11 := Fr.app N10 N11q
    refine Goes.tr (U' := T11.setTop (mkF m 131 #[.val (.int p1), .val (.int p2), .val (.int p3), .val (.int p4), .val (.ref b1), .val (.int (0 : Int32)), .val (.int (1 : Int32)), .val (.int (2 : Int32)), .val (.int (1 : Int32))] [(.int p2)])) st11 ?_
    refine Goes.st (U' := T11.setTop (mkF m 132 #[.val (.int p1), .val (.int p2), .val (.int p3), .val (.int p4), .val (.ref b1), .val (.int (0 : Int32)), .val (.int (1 : Int32)), .val (.int (2 : Int32)), .val (.int (1 : Int32))] [(.int p2), (.int p2)])) (fun t k => XS.iloadN X11.here hx rfl (hb hby at_131) rfl k) ?_
    refine Goes.st (U' := T11.setTop (mkF m 135 #[.val (.int p1), .val (.int p2), .val (.int p3), .val (.int p4), .val (.ref b1), .val (.int (0 : Int32)), .val (.int (1 : Int32)), .val (.int (2 : Int32)), .val (.int (1 : Int32))] [])) (fun t k => XS.icmpNo X11.here hx rfl (hb hby at_132) rfl (teq (rfl : p2 = p2)).2 k) ?_
    refine Goes.st (U' := T11.setTop (mkF m 137 #[.val (.int p1), .val (.int p2), .val (.int p3), .val (.int p4), .val (.ref b1), .val (.int (0 : Int32)), .val (.int (1 : Int32)), .val (.int (2 : Int32)), .val (.int (1 : Int32))] [(.ref b1)])) (fun t k => XS.aload X11.here hx rfl (hb hby at_135) rfl rfl k) ?_
    refine Goes.st (U' := T11.setTop (mkF m 139 #[.val (.int p1), .val (.int p2), .val (.int p3), .val (.int p4), .val (.ref b1), .val (.int (0 : Int32)), .val (.int (1 : Int32)), .val (.int (2 : Int32)), .val (.int (1 : Int32))] [(.int (2 : Int32)), (.ref b1)])) (fun t k => XS.iload X11.here hx rfl (hb hby at_137) rfl k) ?_
    obtain ⟨cq12, kq12, q12a, q12b, q12c⟩ := isOf hZ e11 (PI_exa I9)
    obtain ⟨_, _, ⟨T12, L12, k12, n12⟩, -, X12, ⟨Lc12, hQ12, l12, y12, z12⟩, st12⟩ := X11.virtualBack hx (y := (⟨"com/example/chaise/chaise/core/PackedInts", "get", "(I)I"⟩ : MethodName)) (z := (⟨"com/example/chaise/chaise/core/PackedInts", "get", "(I)I"⟩ : MethodName)) hown (mvT hZ (hw _ (List.mem_of_getElem? (i := 21) rfl))) (mvT hZ (hw _ (List.mem_of_getElem? (i := 22) rfl))) (notFace_of_selects (args := #[]) (mvT hZ (hw _ (List.mem_of_getElem? (i := 24) rfl)))) (mvT hZ (hw _ (List.mem_of_getElem? (i := 24) rfl))) (mvT hZ (hw _ (List.mem_of_getElem? (i := 23) rfl))) (by decide) (backOf (W := 0) (rmG2 l Z a0 hw [] b1 (2 : Int32) p1 p2 p3 T9.heap n0 Z9 (I9) (rfl)) hZ (hw _ (List.mem_of_getElem? (i := 25) rfl)) (hw _ (List.mem_of_getElem? (i := 2) rfl)) (by decide) (by decide)) q12a q12c (g := (mkF m 139 #[.val (.int p1), .val (.int p2), .val (.int p3), .val (.int p4), .val (.ref b1), .val (.int (0 : Int32)), .val (.int (1 : Int32)), .val (.int (2 : Int32)), .val (.int (1 : Int32))] [(.int (2 : Int32)), (.ref b1)])) rfl (by rw [hml]; rfl) (Steps.refl _) (argsL := [(.int (2 : Int32))]) (rest := []) (lenOf pd_1 rfl) rfl (by show 2 * 0 + _ ≤ _; exact Nat.le_of_eq rfl) (hb hby at_139) (fun _ _ => ⟨rfl, e11, (by decide : 8 + 0 ≤ _), (by decide : 57 + 0 ≤ _)⟩)
    dsimp only [Pt.U, Pt.locs, Pt.cells, Pt.slots] at X12 l12 y12 z12 st12 hQ12
    subst l12 y12 z12
    obtain ⟨rfl, N12q, e12⟩ := hQ12
    have N12 := Fr.app N11 N12q
    refine Goes.tr (U' := T12.setTop (mkF m 142 #[.val (.int p1), .val (.int p2), .val (.int p3), .val (.int p4), .val (.ref b1), .val (.int (0 : Int32)), .val (.int (1 : Int32)), .val (.int (2 : Int32)), .val (.int (1 : Int32))] [(.int p3)])) st12 ?_
    refine Goes.st (U' := T12.setTop (mkF m 143 #[.val (.int p1), .val (.int p2), .val (.int p3), .val (.int p4), .val (.ref b1), .val (.int (0 : Int32)), .val (.int (1 : Int32)), .val (.int (2 : Int32)), .val (.int (1 : Int32))] [(.int p3), (.int p3)])) (fun t k => XS.iloadN X12.here hx rfl (hb hby at_142) rfl k) ?_
    refine Goes.st (U' := T12.setTop (mkF m 146 #[.val (.int p1), .val (.int p2), .val (.int p3), .val (.int p4), .val (.ref b1), .val (.int (0 : Int32)), .val (.int (1 : Int32)), .val (.int (2 : Int32)), .val (.int (1 : Int32))] [])) (fun t k => XS.icmpNo X12.here hx rfl (hb hby at_143) rfl (teq (rfl : p3 = p3)).2 k) ?_
    refine Goes.st (U' := T12.setTop (mkF m 147 #[.val (.int p1), .val (.int p2), .val (.int p3), .val (.int p4), .val (.ref b1), .val (.int (0 : Int32)), .val (.int (1 : Int32)), .val (.int (2 : Int32)), .val (.int (1 : Int32))] [(.int (1 : Int32))])) (fun t k => XS.iconst X12.here hx rfl (hb hby at_146) k) ?_
    refine Goes.st (U' := T12.setTop (mkF m 151 #[.val (.int p1), .val (.int p2), .val (.int p3), .val (.int p4), .val (.ref b1), .val (.int (0 : Int32)), .val (.int (1 : Int32)), .val (.int (2 : Int32)), .val (.int (1 : Int32))] [(.int (1 : Int32))])) (fun t k => XS.goto X12.here hx rfl (pc0 := 147) (pc' := 151) rfl (hb hby at_147) (by decide) (by decide) k) ?_
    refine Goes.st (U' := T12.setTop (mkF m 153 #[.val (.int p1), .val (.int p2), .val (.int p3), .val (.int p4), .val (.ref b1), .val (.int (0 : Int32)), .val (.int (1 : Int32)), .val (.int (2 : Int32)), .val (.int (1 : Int32))] [])) (fun t k => XS.istore X12.here hx rfl (hb hby at_151) rfl (l' := #[.val (.int p1), .val (.int p2), .val (.int p3), .val (.int p4), .val (.ref b1), .val (.int (0 : Int32)), .val (.int (1 : Int32)), .val (.int (2 : Int32)), .val (.int (1 : Int32))]) rfl k) ?_
    refine Goes.st (U' := T12.setTop (mkF m 155 #[.val (.int p1), .val (.int p2), .val (.int p3), .val (.int p4), .val (.ref b1), .val (.int (0 : Int32)), .val (.int (1 : Int32)), .val (.int (2 : Int32)), .val (.int (1 : Int32))] [(.int (1 : Int32))])) (fun t k => XS.iload X12.here hx rfl (hb hby at_153) rfl k) ?_
    refine Goes.retZ X12 hx (BodyLoose.notSynchronized Bd) Bd.returns (hb hby at_155) rfl (by decide) (by decide) ?_
    show Q0 Z p1 p2 p3 p4 h0 n0 _ T12.heap _
    rw [e12]
    exact ⟨rfl, N12⟩
  · skip
    refine Goes.st (U' := T2.setTop (mkF m 18 #[.val (.int p1), .val (.int p2), .val (.int p3), .val (.int p4), .val (.ref b1), .val (.int (1 : Int32)), .unset, .unset, .unset] [])) (fun t k => XS.istore X2.here hx rfl (hb hby at_16) rfl (l' := #[.val (.int p1), .val (.int p2), .val (.int p3), .val (.int p4), .val (.ref b1), .val (.int (1 : Int32)), .unset, .unset, .unset]) rfl k) ?_
    refine Goes.st (U' := T2.setTop (mkF m 20 #[.val (.int p1), .val (.int p2), .val (.int p3), .val (.int p4), .val (.ref b1), .val (.int (1 : Int32)), .unset, .unset, .unset] [(.int (1 : Int32))])) (fun t k => XS.iload X2.here hx rfl (hb hby at_18) rfl k) ?_
    refine Goes.st (U' := T2.setTop (mkF m 21 #[.val (.int p1), .val (.int p2), .val (.int p3), .val (.int p4), .val (.ref b1), .val (.int (1 : Int32)), .unset, .unset, .unset] [(.int (1 : Int32)), (.int (1 : Int32))])) (fun t k => XS.iconst X2.here hx rfl (hb hby at_20) k) ?_
    refine Goes.st (U' := T2.setTop (mkF m 22 #[.val (.int p1), .val (.int p2), .val (.int p3), .val (.int p4), .val (.ref b1), .val (.int (1 : Int32)), .unset, .unset, .unset] [(.int (2 : Int32))])) (fun t k => XS.iadd X2.here hx rfl (hb hby at_21) rfl k) ?_
    refine Goes.st (U' := T2.setTop (mkF m 23 #[.val (.int p1), .val (.int p2), .val (.int p3), .val (.int p4), .val (.ref b1), .val (.int (1 : Int32)), .unset, .unset, .unset] [(.int (3 : Int32)), (.int (2 : Int32))])) (fun t k => XS.iconst X2.here hx rfl (hb hby at_22) k) ?_
    refine Goes.st (U' := T2.setTop (mkF m 24 #[.val (.int p1), .val (.int p2), .val (.int p3), .val (.int p4), .val (.ref b1), .val (.int (1 : Int32)), .unset, .unset, .unset] [(.int ((2 : Int32) % (3 : Int32)))])) (fun t k => iremM X2 hx rfl (hb hby at_23) rfl (by decide : ¬ ((3 : Int32) = (0 : Int32))) k) ?_
    rw [(by decide +kernel : ((2 : Int32) % (3 : Int32)) = (2 : Int32))]
    refine Goes.st (U' := T2.setTop (mkF m 26 #[.val (.int p1), .val (.int p2), .val (.int p3), .val (.int p4), .val (.ref b1), .val (.int (1 : Int32)), .val (.int (2 : Int32)), .unset, .unset] [])) (fun t k => XS.istore X2.here hx rfl (hb hby at_24) rfl (l' := #[.val (.int p1), .val (.int p2), .val (.int p3), .val (.int p4), .val (.ref b1), .val (.int (1 : Int32)), .val (.int (2 : Int32)), .unset, .unset]) rfl k) ?_
    refine Goes.st (U' := T2.setTop (mkF m 28 #[.val (.int p1), .val (.int p2), .val (.int p3), .val (.int p4), .val (.ref b1), .val (.int (1 : Int32)), .val (.int (2 : Int32)), .unset, .unset] [(.int (1 : Int32))])) (fun t k => XS.iload X2.here hx rfl (hb hby at_26) rfl k) ?_
    refine Goes.st (U' := T2.setTop (mkF m 29 #[.val (.int p1), .val (.int p2), .val (.int p3), .val (.int p4), .val (.ref b1), .val (.int (1 : Int32)), .val (.int (2 : Int32)), .unset, .unset] [(.int (2 : Int32)), (.int (1 : Int32))])) (fun t k => XS.iconst X2.here hx rfl (hb hby at_28) k) ?_
    refine Goes.st (U' := T2.setTop (mkF m 30 #[.val (.int p1), .val (.int p2), .val (.int p3), .val (.int p4), .val (.ref b1), .val (.int (1 : Int32)), .val (.int (2 : Int32)), .unset, .unset] [(.int (3 : Int32))])) (fun t k => XS.iadd X2.here hx rfl (hb hby at_29) rfl k) ?_
    refine Goes.st (U' := T2.setTop (mkF m 31 #[.val (.int p1), .val (.int p2), .val (.int p3), .val (.int p4), .val (.ref b1), .val (.int (1 : Int32)), .val (.int (2 : Int32)), .unset, .unset] [(.int (3 : Int32)), (.int (3 : Int32))])) (fun t k => XS.iconst X2.here hx rfl (hb hby at_30) k) ?_
    refine Goes.st (U' := T2.setTop (mkF m 32 #[.val (.int p1), .val (.int p2), .val (.int p3), .val (.int p4), .val (.ref b1), .val (.int (1 : Int32)), .val (.int (2 : Int32)), .unset, .unset] [(.int ((3 : Int32) % (3 : Int32)))])) (fun t k => iremM X2 hx rfl (hb hby at_31) rfl (by decide : ¬ ((3 : Int32) = (0 : Int32))) k) ?_
    rw [(by decide +kernel : ((3 : Int32) % (3 : Int32)) = (0 : Int32))]
    refine Goes.st (U' := T2.setTop (mkF m 34 #[.val (.int p1), .val (.int p2), .val (.int p3), .val (.int p4), .val (.ref b1), .val (.int (1 : Int32)), .val (.int (2 : Int32)), .val (.int (0 : Int32)), .unset] [])) (fun t k => XS.istore X2.here hx rfl (hb hby at_32) rfl (l' := #[.val (.int p1), .val (.int p2), .val (.int p3), .val (.int p4), .val (.ref b1), .val (.int (1 : Int32)), .val (.int (2 : Int32)), .val (.int (0 : Int32)), .unset]) rfl k) ?_
    refine Goes.st (U' := T2.setTop (mkF m 36 #[.val (.int p1), .val (.int p2), .val (.int p3), .val (.int p4), .val (.ref b1), .val (.int (1 : Int32)), .val (.int (2 : Int32)), .val (.int (0 : Int32)), .unset] [(.ref b1)])) (fun t k => XS.aload X2.here hx rfl (hb hby at_34) rfl rfl k) ?_
    refine Goes.st (U' := T2.setTop (mkF m 38 #[.val (.int p1), .val (.int p2), .val (.int p3), .val (.int p4), .val (.ref b1), .val (.int (1 : Int32)), .val (.int (2 : Int32)), .val (.int (0 : Int32)), .unset] [(.int (2 : Int32)), (.ref b1)])) (fun t k => XS.iload X2.here hx rfl (hb hby at_36) rfl k) ?_
    obtain ⟨cq13, kq13, q13a, q13b, q13c⟩ := isOf hZ rfl (PI_exa I2)
    obtain ⟨_, _, ⟨T13, L13, k13, n13⟩, -, X13, ⟨Lc13, hQ13, l13, y13, z13⟩, st13⟩ := X2.virtualBack hx (y := (⟨"com/example/chaise/chaise/core/PackedInts", "get", "(I)I"⟩ : MethodName)) (z := (⟨"com/example/chaise/chaise/core/PackedInts", "get", "(I)I"⟩ : MethodName)) hown (mvT hZ (hw _ (List.mem_of_getElem? (i := 21) rfl))) (mvT hZ (hw _ (List.mem_of_getElem? (i := 22) rfl))) (notFace_of_selects (args := #[]) (mvT hZ (hw _ (List.mem_of_getElem? (i := 24) rfl)))) (mvT hZ (hw _ (List.mem_of_getElem? (i := 24) rfl))) (mvT hZ (hw _ (List.mem_of_getElem? (i := 23) rfl))) (by decide) (backOf (W := 0) (rmG2 l Z a0 hw [] b1 (2 : Int32) (0 : Int32) (0 : Int32) (0 : Int32) T2.heap n0 (Nat.le_trans (Nat.le_trans Z0 E1.1) K2.1) (I2) (rfl)) hZ (hw _ (List.mem_of_getElem? (i := 25) rfl)) (hw _ (List.mem_of_getElem? (i := 2) rfl)) (by decide) (by decide)) q13a q13c (g := (mkF m 38 #[.val (.int p1), .val (.int p2), .val (.int p3), .val (.int p4), .val (.ref b1), .val (.int (1 : Int32)), .val (.int (2 : Int32)), .val (.int (0 : Int32)), .unset] [(.int (2 : Int32)), (.ref b1)])) rfl (by rw [hml]; rfl) (Steps.refl _) (argsL := [(.int (2 : Int32))]) (rest := []) (lenOf pd_1 rfl) rfl (by show 2 * 0 + _ ≤ _; exact Nat.le_of_eq rfl) (hb hby at_38) (fun _ _ => ⟨rfl, rfl, (by decide : 2 + 0 ≤ _), (by decide : 12 + 0 ≤ _)⟩)
    dsimp only [Pt.U, Pt.locs, Pt.cells, Pt.slots] at X13 l13 y13 z13 st13 hQ13
    subst l13 y13 z13
    obtain ⟨rfl, N13q, e13⟩ := hQ13
    have N13 := Fr.app N2 N13q
    refine Goes.tr (U' := T13.setTop (mkF m 41 #[.val (.int p1), .val (.int p2), .val (.int p3), .val (.int p4), .val (.ref b1), .val (.int (1 : Int32)), .val (.int (2 : Int32)), .val (.int (0 : Int32)), .unset] [(.int (0 : Int32))])) st13 ?_
    refine Goes.st (U' := T13.setTop (mkF m 44 #[.val (.int p1), .val (.int p2), .val (.int p3), .val (.int p4), .val (.ref b1), .val (.int (1 : Int32)), .val (.int (2 : Int32)), .val (.int (0 : Int32)), .unset] [])) (fun t k => XS.ifNo X13.here hx rfl (hb hby at_41) rfl ((if0 _ _).trans (teq (rfl : (0 : Int32) = (0 : Int32))).2) k) ?_
    refine Goes.st (U' := T13.setTop (mkF m 45 #[.val (.int p1), .val (.int p2), .val (.int p3), .val (.int p4), .val (.ref b1), .val (.int (1 : Int32)), .val (.int (2 : Int32)), .val (.int (0 : Int32)), .unset] [(.int (1 : Int32))])) (fun t k => XS.iconst X13.here hx rfl (hb hby at_44) k) ?_
    refine Goes.st (U' := T13.setTop (mkF m 49 #[.val (.int p1), .val (.int p2), .val (.int p3), .val (.int p4), .val (.ref b1), .val (.int (1 : Int32)), .val (.int (2 : Int32)), .val (.int (0 : Int32)), .unset] [(.int (1 : Int32))])) (fun t k => XS.goto X13.here hx rfl (pc0 := 45) (pc' := 49) rfl (hb hby at_45) (by decide) (by decide) k) ?_
    refine Goes.st (U' := T13.setTop (mkF m 51 #[.val (.int p1), .val (.int p2), .val (.int p3), .val (.int p4), .val (.ref b1), .val (.int (1 : Int32)), .val (.int (2 : Int32)), .val (.int (0 : Int32)), .val (.int (1 : Int32))] [])) (fun t k => XS.istore X13.here hx rfl (hb hby at_49) rfl (l' := #[.val (.int p1), .val (.int p2), .val (.int p3), .val (.int p4), .val (.ref b1), .val (.int (1 : Int32)), .val (.int (2 : Int32)), .val (.int (0 : Int32)), .val (.int (1 : Int32))]) rfl k) ?_
    refine Goes.st (U' := T13.setTop (mkF m 53 #[.val (.int p1), .val (.int p2), .val (.int p3), .val (.int p4), .val (.ref b1), .val (.int (1 : Int32)), .val (.int (2 : Int32)), .val (.int (0 : Int32)), .val (.int (1 : Int32))] [(.ref b1)])) (fun t k => XS.aload X13.here hx rfl (hb hby at_51) rfl rfl k) ?_
    refine Goes.st (U' := T13.setTop (mkF m 55 #[.val (.int p1), .val (.int p2), .val (.int p3), .val (.int p4), .val (.ref b1), .val (.int (1 : Int32)), .val (.int (2 : Int32)), .val (.int (0 : Int32)), .val (.int (1 : Int32))] [(.int (1 : Int32)), (.ref b1)])) (fun t k => XS.iload X13.here hx rfl (hb hby at_53) rfl k) ?_
    refine Goes.st (U' := T13.setTop (mkF m 56 #[.val (.int p1), .val (.int p2), .val (.int p3), .val (.int p4), .val (.ref b1), .val (.int (1 : Int32)), .val (.int (2 : Int32)), .val (.int (0 : Int32)), .val (.int (1 : Int32))] [(.int p1), (.int (1 : Int32)), (.ref b1)])) (fun t k => XS.iloadN X13.here hx rfl (hb hby at_55) rfl k) ?_
    obtain ⟨cq14, kq14, q14a, q14b, q14c⟩ := isOf hZ e13 (PI_exa I2)
    obtain ⟨_, _, ⟨T14, L14, k14, n14⟩, -, X14, ⟨Lc14, hQ14, l14, y14, z14⟩, st14⟩ := X13.virtualBack hx (y := (⟨"com/example/chaise/chaise/core/PackedInts", "set", "(II)V"⟩ : MethodName)) (z := (⟨"com/example/chaise/chaise/core/PackedInts", "set", "(II)V"⟩ : MethodName)) hown (mvT hZ (hw _ (List.mem_of_getElem? (i := 26) rfl))) (mvT hZ (hw _ (List.mem_of_getElem? (i := 27) rfl))) (notFace_of_selects (args := #[]) (mvT hZ (hw _ (List.mem_of_getElem? (i := 29) rfl)))) (mvT hZ (hw _ (List.mem_of_getElem? (i := 29) rfl))) (mvT hZ (hw _ (List.mem_of_getElem? (i := 28) rfl))) (by decide) (backOf (W := 0) (rmS1 l Z a0 hw [] b1 (1 : Int32) p1 (0 : Int32) (0 : Int32) (0 : Int32) T2.heap n0 (Nat.le_trans (Nat.le_trans Z0 E1.1) K2.1) (I2) (rfl) (g_b1)) hZ (hw _ (List.mem_of_getElem? (i := 30) rfl)) (hw _ (List.mem_of_getElem? (i := 2) rfl)) (by decide) (by decide)) q14a q14c (g := (mkF m 56 #[.val (.int p1), .val (.int p2), .val (.int p3), .val (.int p4), .val (.ref b1), .val (.int (1 : Int32)), .val (.int (2 : Int32)), .val (.int (0 : Int32)), .val (.int (1 : Int32))] [(.int p1), (.int (1 : Int32)), (.ref b1)])) rfl (by rw [hml]; rfl) (Steps.refl _) (argsL := [(.int (1 : Int32)), (.int p1)]) (rest := []) (lenOf pd_0 rfl) rfl (by show 2 * 0 + _ ≤ _; exact Nat.le_of_eq rfl) (hb hby at_56) (fun _ _ => ⟨rfl, e13, (by decide : 2 + 2 ≤ _), (by decide : 12 + 15 ≤ _)⟩)
    dsimp only [Pt.U, Pt.locs, Pt.cells, Pt.slots] at X14 l14 y14 z14 st14 hQ14
    subst l14 y14 z14
    obtain ⟨rfl, N14q, Z14, I14⟩ := hQ14
    have N14 := Fr.app N13 N14q
    refine Goes.tr (U' := T14.setTop (mkF m 59 #[.val (.int p1), .val (.int p2), .val (.int p3), .val (.int p4), .val (.ref b1), .val (.int (1 : Int32)), .val (.int (2 : Int32)), .val (.int (0 : Int32)), .val (.int (1 : Int32))] [])) st14 ?_
    refine Goes.st (U' := T14.setTop (mkF m 61 #[.val (.int p1), .val (.int p2), .val (.int p3), .val (.int p4), .val (.ref b1), .val (.int (1 : Int32)), .val (.int (2 : Int32)), .val (.int (0 : Int32)), .val (.int (1 : Int32))] [(.int (1 : Int32))])) (fun t k => XS.iload X14.here hx rfl (hb hby at_59) rfl k) ?_
    refine Goes.st (U' := T14.setTop (mkF m 64 #[.val (.int p1), .val (.int p2), .val (.int p3), .val (.int p4), .val (.ref b1), .val (.int (1 : Int32)), .val (.int (2 : Int32)), .val (.int (0 : Int32)), .val (.int (1 : Int32))] [])) (fun t k => XS.ifNo X14.here hx rfl (hb hby at_61) rfl ((if0 _ _).trans (feq (by decide : ¬ ((1 : Int32) = (0 : Int32)))).1) k) ?_
    refine Goes.st (U' := T14.setTop (mkF m 66 #[.val (.int p1), .val (.int p2), .val (.int p3), .val (.int p4), .val (.ref b1), .val (.int (1 : Int32)), .val (.int (2 : Int32)), .val (.int (0 : Int32)), .val (.int (1 : Int32))] [(.ref b1)])) (fun t k => XS.aload X14.here hx rfl (hb hby at_64) rfl rfl k) ?_
    refine Goes.st (U' := T14.setTop (mkF m 68 #[.val (.int p1), .val (.int p2), .val (.int p3), .val (.int p4), .val (.ref b1), .val (.int (1 : Int32)), .val (.int (2 : Int32)), .val (.int (0 : Int32)), .val (.int (1 : Int32))] [(.int (1 : Int32)), (.ref b1)])) (fun t k => XS.iload X14.here hx rfl (hb hby at_66) rfl k) ?_
    obtain ⟨cq15, kq15, q15a, q15b, q15c⟩ := isOf hZ rfl (PI_exa I14)
    obtain ⟨_, _, ⟨T15, L15, k15, n15⟩, -, X15, ⟨Lc15, hQ15, l15, y15, z15⟩, st15⟩ := X14.virtualBack hx (y := (⟨"com/example/chaise/chaise/core/PackedInts", "get", "(I)I"⟩ : MethodName)) (z := (⟨"com/example/chaise/chaise/core/PackedInts", "get", "(I)I"⟩ : MethodName)) hown (mvT hZ (hw _ (List.mem_of_getElem? (i := 21) rfl))) (mvT hZ (hw _ (List.mem_of_getElem? (i := 22) rfl))) (notFace_of_selects (args := #[]) (mvT hZ (hw _ (List.mem_of_getElem? (i := 24) rfl)))) (mvT hZ (hw _ (List.mem_of_getElem? (i := 24) rfl))) (mvT hZ (hw _ (List.mem_of_getElem? (i := 23) rfl))) (by decide) (backOf (W := 0) (rmG1 l Z a0 hw [] b1 (1 : Int32) (0 : Int32) p1 (0 : Int32) T14.heap n0 Z14 (I14) (rfl)) hZ (hw _ (List.mem_of_getElem? (i := 25) rfl)) (hw _ (List.mem_of_getElem? (i := 2) rfl)) (by decide) (by decide)) q15a q15c (g := (mkF m 68 #[.val (.int p1), .val (.int p2), .val (.int p3), .val (.int p4), .val (.ref b1), .val (.int (1 : Int32)), .val (.int (2 : Int32)), .val (.int (0 : Int32)), .val (.int (1 : Int32))] [(.int (1 : Int32)), (.ref b1)])) rfl (by rw [hml]; rfl) (Steps.refl _) (argsL := [(.int (1 : Int32))]) (rest := []) (lenOf pd_1 rfl) rfl (by show 2 * 0 + _ ≤ _; exact Nat.le_of_eq rfl) (hb hby at_68) (fun _ _ => ⟨rfl, rfl, (by decide : 4 + 0 ≤ _), (by decide : 27 + 0 ≤ _)⟩)
    dsimp only [Pt.U, Pt.locs, Pt.cells, Pt.slots] at X15 l15 y15 z15 st15 hQ15
    subst l15 y15 z15
    obtain ⟨rfl, N15q, e15⟩ := hQ15
    have N15 := Fr.app N14 N15q
    refine Goes.tr (U' := T15.setTop (mkF m 71 #[.val (.int p1), .val (.int p2), .val (.int p3), .val (.int p4), .val (.ref b1), .val (.int (1 : Int32)), .val (.int (2 : Int32)), .val (.int (0 : Int32)), .val (.int (1 : Int32))] [(.int p1)])) st15 ?_
    refine Goes.st (U' := T15.setTop (mkF m 72 #[.val (.int p1), .val (.int p2), .val (.int p3), .val (.int p4), .val (.ref b1), .val (.int (1 : Int32)), .val (.int (2 : Int32)), .val (.int (0 : Int32)), .val (.int (1 : Int32))] [(.int p1), (.int p1)])) (fun t k => XS.iloadN X15.here hx rfl (hb hby at_71) rfl k) ?_
    refine Goes.st (U' := T15.setTop (mkF m 75 #[.val (.int p1), .val (.int p2), .val (.int p3), .val (.int p4), .val (.ref b1), .val (.int (1 : Int32)), .val (.int (2 : Int32)), .val (.int (0 : Int32)), .val (.int (1 : Int32))] [])) (fun t k => XS.icmpNo X15.here hx rfl (hb hby at_72) rfl (teq (rfl : p1 = p1)).2 k) ?_
    refine Goes.st (U' := T15.setTop (mkF m 77 #[.val (.int p1), .val (.int p2), .val (.int p3), .val (.int p4), .val (.ref b1), .val (.int (1 : Int32)), .val (.int (2 : Int32)), .val (.int (0 : Int32)), .val (.int (1 : Int32))] [(.ref b1)])) (fun t k => XS.aload X15.here hx rfl (hb hby at_75) rfl rfl k) ?_
    refine Goes.st (U' := T15.setTop (mkF m 79 #[.val (.int p1), .val (.int p2), .val (.int p3), .val (.int p4), .val (.ref b1), .val (.int (1 : Int32)), .val (.int (2 : Int32)), .val (.int (0 : Int32)), .val (.int (1 : Int32))] [(.int (2 : Int32)), (.ref b1)])) (fun t k => XS.iload X15.here hx rfl (hb hby at_77) rfl k) ?_
    obtain ⟨cq16, kq16, q16a, q16b, q16c⟩ := isOf hZ e15 (PI_exa I14)
    obtain ⟨_, _, ⟨T16, L16, k16, n16⟩, -, X16, ⟨Lc16, hQ16, l16, y16, z16⟩, st16⟩ := X15.virtualBack hx (y := (⟨"com/example/chaise/chaise/core/PackedInts", "get", "(I)I"⟩ : MethodName)) (z := (⟨"com/example/chaise/chaise/core/PackedInts", "get", "(I)I"⟩ : MethodName)) hown (mvT hZ (hw _ (List.mem_of_getElem? (i := 21) rfl))) (mvT hZ (hw _ (List.mem_of_getElem? (i := 22) rfl))) (notFace_of_selects (args := #[]) (mvT hZ (hw _ (List.mem_of_getElem? (i := 24) rfl)))) (mvT hZ (hw _ (List.mem_of_getElem? (i := 24) rfl))) (mvT hZ (hw _ (List.mem_of_getElem? (i := 23) rfl))) (by decide) (backOf (W := 0) (rmG2 l Z a0 hw [] b1 (2 : Int32) (0 : Int32) p1 (0 : Int32) T14.heap n0 Z14 (I14) (rfl)) hZ (hw _ (List.mem_of_getElem? (i := 25) rfl)) (hw _ (List.mem_of_getElem? (i := 2) rfl)) (by decide) (by decide)) q16a q16c (g := (mkF m 79 #[.val (.int p1), .val (.int p2), .val (.int p3), .val (.int p4), .val (.ref b1), .val (.int (1 : Int32)), .val (.int (2 : Int32)), .val (.int (0 : Int32)), .val (.int (1 : Int32))] [(.int (2 : Int32)), (.ref b1)])) rfl (by rw [hml]; rfl) (Steps.refl _) (argsL := [(.int (2 : Int32))]) (rest := []) (lenOf pd_1 rfl) rfl (by show 2 * 0 + _ ≤ _; exact Nat.le_of_eq rfl) (hb hby at_79) (fun _ _ => ⟨rfl, e15, (by decide : 4 + 0 ≤ _), (by decide : 27 + 0 ≤ _)⟩)
    dsimp only [Pt.U, Pt.locs, Pt.cells, Pt.slots] at X16 l16 y16 z16 st16 hQ16
    subst l16 y16 z16
    obtain ⟨rfl, N16q, e16⟩ := hQ16
    have N16 := Fr.app N15 N16q
    refine Goes.tr (U' := T16.setTop (mkF m 82 #[.val (.int p1), .val (.int p2), .val (.int p3), .val (.int p4), .val (.ref b1), .val (.int (1 : Int32)), .val (.int (2 : Int32)), .val (.int (0 : Int32)), .val (.int (1 : Int32))] [(.int (0 : Int32))])) st16 ?_
    refine Goes.st (U' := T16.setTop (mkF m 85 #[.val (.int p1), .val (.int p2), .val (.int p3), .val (.int p4), .val (.ref b1), .val (.int (1 : Int32)), .val (.int (2 : Int32)), .val (.int (0 : Int32)), .val (.int (1 : Int32))] [])) (fun t k => XS.ifNo X16.here hx rfl (hb hby at_82) rfl ((if0 _ _).trans (teq (rfl : (0 : Int32) = (0 : Int32))).2) k) ?_
    refine Goes.st (U' := T16.setTop (mkF m 86 #[.val (.int p1), .val (.int p2), .val (.int p3), .val (.int p4), .val (.ref b1), .val (.int (1 : Int32)), .val (.int (2 : Int32)), .val (.int (0 : Int32)), .val (.int (1 : Int32))] [(.int (1 : Int32))])) (fun t k => XS.iconst X16.here hx rfl (hb hby at_85) k) ?_
    refine Goes.st (U' := T16.setTop (mkF m 90 #[.val (.int p1), .val (.int p2), .val (.int p3), .val (.int p4), .val (.ref b1), .val (.int (1 : Int32)), .val (.int (2 : Int32)), .val (.int (0 : Int32)), .val (.int (1 : Int32))] [(.int (1 : Int32))])) (fun t k => XS.goto X16.here hx rfl (pc0 := 86) (pc' := 90) rfl (hb hby at_86) (by decide) (by decide) k) ?_
    refine Goes.st (U' := T16.setTop (mkF m 92 #[.val (.int p1), .val (.int p2), .val (.int p3), .val (.int p4), .val (.ref b1), .val (.int (1 : Int32)), .val (.int (2 : Int32)), .val (.int (0 : Int32)), .val (.int (1 : Int32))] [])) (fun t k => XS.istore X16.here hx rfl (hb hby at_90) rfl (l' := #[.val (.int p1), .val (.int p2), .val (.int p3), .val (.int p4), .val (.ref b1), .val (.int (1 : Int32)), .val (.int (2 : Int32)), .val (.int (0 : Int32)), .val (.int (1 : Int32))]) rfl k) ?_
    refine Goes.st (U' := T16.setTop (mkF m 94 #[.val (.int p1), .val (.int p2), .val (.int p3), .val (.int p4), .val (.ref b1), .val (.int (1 : Int32)), .val (.int (2 : Int32)), .val (.int (0 : Int32)), .val (.int (1 : Int32))] [(.ref b1)])) (fun t k => XS.aload X16.here hx rfl (hb hby at_92) rfl rfl k) ?_
    refine Goes.st (U' := T16.setTop (mkF m 96 #[.val (.int p1), .val (.int p2), .val (.int p3), .val (.int p4), .val (.ref b1), .val (.int (1 : Int32)), .val (.int (2 : Int32)), .val (.int (0 : Int32)), .val (.int (1 : Int32))] [(.int (2 : Int32)), (.ref b1)])) (fun t k => XS.iload X16.here hx rfl (hb hby at_94) rfl k) ?_
    refine Goes.st (U' := T16.setTop (mkF m 97 #[.val (.int p1), .val (.int p2), .val (.int p3), .val (.int p4), .val (.ref b1), .val (.int (1 : Int32)), .val (.int (2 : Int32)), .val (.int (0 : Int32)), .val (.int (1 : Int32))] [(.int p2), (.int (2 : Int32)), (.ref b1)])) (fun t k => XS.iloadN X16.here hx rfl (hb hby at_96) rfl k) ?_
    obtain ⟨cq17, kq17, q17a, q17b, q17c⟩ := isOf hZ e16 (PI_exa I14)
    obtain ⟨_, _, ⟨T17, L17, k17, n17⟩, -, X17, ⟨Lc17, hQ17, l17, y17, z17⟩, st17⟩ := X16.virtualBack hx (y := (⟨"com/example/chaise/chaise/core/PackedInts", "set", "(II)V"⟩ : MethodName)) (z := (⟨"com/example/chaise/chaise/core/PackedInts", "set", "(II)V"⟩ : MethodName)) hown (mvT hZ (hw _ (List.mem_of_getElem? (i := 26) rfl))) (mvT hZ (hw _ (List.mem_of_getElem? (i := 27) rfl))) (notFace_of_selects (args := #[]) (mvT hZ (hw _ (List.mem_of_getElem? (i := 29) rfl)))) (mvT hZ (hw _ (List.mem_of_getElem? (i := 29) rfl))) (mvT hZ (hw _ (List.mem_of_getElem? (i := 28) rfl))) (by decide) (backOf (W := 0) (rmS2 l Z a0 hw [] b1 (2 : Int32) p2 (0 : Int32) p1 (0 : Int32) T14.heap n0 Z14 (I14) (rfl) (g_b1)) hZ (hw _ (List.mem_of_getElem? (i := 30) rfl)) (hw _ (List.mem_of_getElem? (i := 2) rfl)) (by decide) (by decide)) q17a q17c (g := (mkF m 97 #[.val (.int p1), .val (.int p2), .val (.int p3), .val (.int p4), .val (.ref b1), .val (.int (1 : Int32)), .val (.int (2 : Int32)), .val (.int (0 : Int32)), .val (.int (1 : Int32))] [(.int p2), (.int (2 : Int32)), (.ref b1)])) rfl (by rw [hml]; rfl) (Steps.refl _) (argsL := [(.int (2 : Int32)), (.int p2)]) (rest := []) (lenOf pd_0 rfl) rfl (by show 2 * 0 + _ ≤ _; exact Nat.le_of_eq rfl) (hb hby at_97) (fun _ _ => ⟨rfl, e16, (by decide : 4 + 2 ≤ _), (by decide : 27 + 15 ≤ _)⟩)
    dsimp only [Pt.U, Pt.locs, Pt.cells, Pt.slots] at X17 l17 y17 z17 st17 hQ17
    subst l17 y17 z17
    obtain ⟨rfl, N17q, Z17, I17⟩ := hQ17
    have N17 := Fr.app N16 N17q
    refine Goes.tr (U' := T17.setTop (mkF m 100 #[.val (.int p1), .val (.int p2), .val (.int p3), .val (.int p4), .val (.ref b1), .val (.int (1 : Int32)), .val (.int (2 : Int32)), .val (.int (0 : Int32)), .val (.int (1 : Int32))] [])) st17 ?_
    refine Goes.st (U' := T17.setTop (mkF m 102 #[.val (.int p1), .val (.int p2), .val (.int p3), .val (.int p4), .val (.ref b1), .val (.int (1 : Int32)), .val (.int (2 : Int32)), .val (.int (0 : Int32)), .val (.int (1 : Int32))] [(.ref b1)])) (fun t k => XS.aload X17.here hx rfl (hb hby at_100) rfl rfl k) ?_
    refine Goes.st (U' := T17.setTop (mkF m 104 #[.val (.int p1), .val (.int p2), .val (.int p3), .val (.int p4), .val (.ref b1), .val (.int (1 : Int32)), .val (.int (2 : Int32)), .val (.int (0 : Int32)), .val (.int (1 : Int32))] [(.int (0 : Int32)), (.ref b1)])) (fun t k => XS.iload X17.here hx rfl (hb hby at_102) rfl k) ?_
    refine Goes.st (U' := T17.setTop (mkF m 105 #[.val (.int p1), .val (.int p2), .val (.int p3), .val (.int p4), .val (.ref b1), .val (.int (1 : Int32)), .val (.int (2 : Int32)), .val (.int (0 : Int32)), .val (.int (1 : Int32))] [(.int p3), (.int (0 : Int32)), (.ref b1)])) (fun t k => XS.iloadN X17.here hx rfl (hb hby at_104) rfl k) ?_
    obtain ⟨cq18, kq18, q18a, q18b, q18c⟩ := isOf hZ rfl (PI_exa I17)
    obtain ⟨_, _, ⟨T18, L18, k18, n18⟩, -, X18, ⟨Lc18, hQ18, l18, y18, z18⟩, st18⟩ := X17.virtualBack hx (y := (⟨"com/example/chaise/chaise/core/PackedInts", "set", "(II)V"⟩ : MethodName)) (z := (⟨"com/example/chaise/chaise/core/PackedInts", "set", "(II)V"⟩ : MethodName)) hown (mvT hZ (hw _ (List.mem_of_getElem? (i := 26) rfl))) (mvT hZ (hw _ (List.mem_of_getElem? (i := 27) rfl))) (notFace_of_selects (args := #[]) (mvT hZ (hw _ (List.mem_of_getElem? (i := 29) rfl)))) (mvT hZ (hw _ (List.mem_of_getElem? (i := 29) rfl))) (mvT hZ (hw _ (List.mem_of_getElem? (i := 28) rfl))) (by decide) (backOf (W := 0) (rmS0 l Z a0 hw [] b1 (0 : Int32) p3 (0 : Int32) p1 p2 T17.heap n0 Z17 (I17) (rfl) (g_b1)) hZ (hw _ (List.mem_of_getElem? (i := 30) rfl)) (hw _ (List.mem_of_getElem? (i := 2) rfl)) (by decide) (by decide)) q18a q18c (g := (mkF m 105 #[.val (.int p1), .val (.int p2), .val (.int p3), .val (.int p4), .val (.ref b1), .val (.int (1 : Int32)), .val (.int (2 : Int32)), .val (.int (0 : Int32)), .val (.int (1 : Int32))] [(.int p3), (.int (0 : Int32)), (.ref b1)])) rfl (by rw [hml]; rfl) (Steps.refl _) (argsL := [(.int (0 : Int32)), (.int p3)]) (rest := []) (lenOf pd_0 rfl) rfl (by show 2 * 0 + _ ≤ _; exact Nat.le_of_eq rfl) (hb hby at_105) (fun _ _ => ⟨rfl, rfl, (by decide : 6 + 2 ≤ _), (by decide : 42 + 15 ≤ _)⟩)
    dsimp only [Pt.U, Pt.locs, Pt.cells, Pt.slots] at X18 l18 y18 z18 st18 hQ18
    subst l18 y18 z18
    obtain ⟨rfl, N18q, Z18, I18⟩ := hQ18
    have N18 := Fr.app N17 N18q
    refine Goes.tr (U' := T18.setTop (mkF m 108 #[.val (.int p1), .val (.int p2), .val (.int p3), .val (.int p4), .val (.ref b1), .val (.int (1 : Int32)), .val (.int (2 : Int32)), .val (.int (0 : Int32)), .val (.int (1 : Int32))] [])) st18 ?_
    refine Goes.st (U' := T18.setTop (mkF m 110 #[.val (.int p1), .val (.int p2), .val (.int p3), .val (.int p4), .val (.ref b1), .val (.int (1 : Int32)), .val (.int (2 : Int32)), .val (.int (0 : Int32)), .val (.int (1 : Int32))] [(.int (1 : Int32))])) (fun t k => XS.iload X18.here hx rfl (hb hby at_108) rfl k) ?_
    refine Goes.st (U' := T18.setTop (mkF m 113 #[.val (.int p1), .val (.int p2), .val (.int p3), .val (.int p4), .val (.ref b1), .val (.int (1 : Int32)), .val (.int (2 : Int32)), .val (.int (0 : Int32)), .val (.int (1 : Int32))] [])) (fun t k => XS.ifNo X18.here hx rfl (hb hby at_110) rfl ((if0 _ _).trans (feq (by decide : ¬ ((1 : Int32) = (0 : Int32)))).1) k) ?_
    refine Goes.st (U' := T18.setTop (mkF m 115 #[.val (.int p1), .val (.int p2), .val (.int p3), .val (.int p4), .val (.ref b1), .val (.int (1 : Int32)), .val (.int (2 : Int32)), .val (.int (0 : Int32)), .val (.int (1 : Int32))] [(.ref b1)])) (fun t k => XS.aload X18.here hx rfl (hb hby at_113) rfl rfl k) ?_
    refine Goes.st (U' := T18.setTop (mkF m 117 #[.val (.int p1), .val (.int p2), .val (.int p3), .val (.int p4), .val (.ref b1), .val (.int (1 : Int32)), .val (.int (2 : Int32)), .val (.int (0 : Int32)), .val (.int (1 : Int32))] [(.int (1 : Int32)), (.ref b1)])) (fun t k => XS.iload X18.here hx rfl (hb hby at_115) rfl k) ?_
    obtain ⟨cq19, kq19, q19a, q19b, q19c⟩ := isOf hZ rfl (PI_exa I18)
    obtain ⟨_, _, ⟨T19, L19, k19, n19⟩, -, X19, ⟨Lc19, hQ19, l19, y19, z19⟩, st19⟩ := X18.virtualBack hx (y := (⟨"com/example/chaise/chaise/core/PackedInts", "get", "(I)I"⟩ : MethodName)) (z := (⟨"com/example/chaise/chaise/core/PackedInts", "get", "(I)I"⟩ : MethodName)) hown (mvT hZ (hw _ (List.mem_of_getElem? (i := 21) rfl))) (mvT hZ (hw _ (List.mem_of_getElem? (i := 22) rfl))) (notFace_of_selects (args := #[]) (mvT hZ (hw _ (List.mem_of_getElem? (i := 24) rfl)))) (mvT hZ (hw _ (List.mem_of_getElem? (i := 24) rfl))) (mvT hZ (hw _ (List.mem_of_getElem? (i := 23) rfl))) (by decide) (backOf (W := 0) (rmG1 l Z a0 hw [] b1 (1 : Int32) p3 p1 p2 T18.heap n0 Z18 (I18) (rfl)) hZ (hw _ (List.mem_of_getElem? (i := 25) rfl)) (hw _ (List.mem_of_getElem? (i := 2) rfl)) (by decide) (by decide)) q19a q19c (g := (mkF m 117 #[.val (.int p1), .val (.int p2), .val (.int p3), .val (.int p4), .val (.ref b1), .val (.int (1 : Int32)), .val (.int (2 : Int32)), .val (.int (0 : Int32)), .val (.int (1 : Int32))] [(.int (1 : Int32)), (.ref b1)])) rfl (by rw [hml]; rfl) (Steps.refl _) (argsL := [(.int (1 : Int32))]) (rest := []) (lenOf pd_1 rfl) rfl (by show 2 * 0 + _ ≤ _; exact Nat.le_of_eq rfl) (hb hby at_117) (fun _ _ => ⟨rfl, rfl, (by decide : 8 + 0 ≤ _), (by decide : 57 + 0 ≤ _)⟩)
    dsimp only [Pt.U, Pt.locs, Pt.cells, Pt.slots] at X19 l19 y19 z19 st19 hQ19
    subst l19 y19 z19
    obtain ⟨rfl, N19q, e19⟩ := hQ19
    have N19 := Fr.app N18 N19q
    refine Goes.tr (U' := T19.setTop (mkF m 120 #[.val (.int p1), .val (.int p2), .val (.int p3), .val (.int p4), .val (.ref b1), .val (.int (1 : Int32)), .val (.int (2 : Int32)), .val (.int (0 : Int32)), .val (.int (1 : Int32))] [(.int p1)])) st19 ?_
    refine Goes.st (U' := T19.setTop (mkF m 121 #[.val (.int p1), .val (.int p2), .val (.int p3), .val (.int p4), .val (.ref b1), .val (.int (1 : Int32)), .val (.int (2 : Int32)), .val (.int (0 : Int32)), .val (.int (1 : Int32))] [(.int p1), (.int p1)])) (fun t k => XS.iloadN X19.here hx rfl (hb hby at_120) rfl k) ?_
    refine Goes.st (U' := T19.setTop (mkF m 124 #[.val (.int p1), .val (.int p2), .val (.int p3), .val (.int p4), .val (.ref b1), .val (.int (1 : Int32)), .val (.int (2 : Int32)), .val (.int (0 : Int32)), .val (.int (1 : Int32))] [])) (fun t k => XS.icmpNo X19.here hx rfl (hb hby at_121) rfl (teq (rfl : p1 = p1)).2 k) ?_
    refine Goes.st (U' := T19.setTop (mkF m 126 #[.val (.int p1), .val (.int p2), .val (.int p3), .val (.int p4), .val (.ref b1), .val (.int (1 : Int32)), .val (.int (2 : Int32)), .val (.int (0 : Int32)), .val (.int (1 : Int32))] [(.ref b1)])) (fun t k => XS.aload X19.here hx rfl (hb hby at_124) rfl rfl k) ?_
    refine Goes.st (U' := T19.setTop (mkF m 128 #[.val (.int p1), .val (.int p2), .val (.int p3), .val (.int p4), .val (.ref b1), .val (.int (1 : Int32)), .val (.int (2 : Int32)), .val (.int (0 : Int32)), .val (.int (1 : Int32))] [(.int (2 : Int32)), (.ref b1)])) (fun t k => XS.iload X19.here hx rfl (hb hby at_126) rfl k) ?_
    obtain ⟨cq20, kq20, q20a, q20b, q20c⟩ := isOf hZ e19 (PI_exa I18)
    obtain ⟨_, _, ⟨T20, L20, k20, n20⟩, -, X20, ⟨Lc20, hQ20, l20, y20, z20⟩, st20⟩ := X19.virtualBack hx (y := (⟨"com/example/chaise/chaise/core/PackedInts", "get", "(I)I"⟩ : MethodName)) (z := (⟨"com/example/chaise/chaise/core/PackedInts", "get", "(I)I"⟩ : MethodName)) hown (mvT hZ (hw _ (List.mem_of_getElem? (i := 21) rfl))) (mvT hZ (hw _ (List.mem_of_getElem? (i := 22) rfl))) (notFace_of_selects (args := #[]) (mvT hZ (hw _ (List.mem_of_getElem? (i := 24) rfl)))) (mvT hZ (hw _ (List.mem_of_getElem? (i := 24) rfl))) (mvT hZ (hw _ (List.mem_of_getElem? (i := 23) rfl))) (by decide) (backOf (W := 0) (rmG2 l Z a0 hw [] b1 (2 : Int32) p3 p1 p2 T18.heap n0 Z18 (I18) (rfl)) hZ (hw _ (List.mem_of_getElem? (i := 25) rfl)) (hw _ (List.mem_of_getElem? (i := 2) rfl)) (by decide) (by decide)) q20a q20c (g := (mkF m 128 #[.val (.int p1), .val (.int p2), .val (.int p3), .val (.int p4), .val (.ref b1), .val (.int (1 : Int32)), .val (.int (2 : Int32)), .val (.int (0 : Int32)), .val (.int (1 : Int32))] [(.int (2 : Int32)), (.ref b1)])) rfl (by rw [hml]; rfl) (Steps.refl _) (argsL := [(.int (2 : Int32))]) (rest := []) (lenOf pd_1 rfl) rfl (by show 2 * 0 + _ ≤ _; exact Nat.le_of_eq rfl) (hb hby at_128) (fun _ _ => ⟨rfl, e19, (by decide : 8 + 0 ≤ _), (by decide : 57 + 0 ≤ _)⟩)
    dsimp only [Pt.U, Pt.locs, Pt.cells, Pt.slots] at X20 l20 y20 z20 st20 hQ20
    subst l20 y20 z20
    obtain ⟨rfl, N20q, e20⟩ := hQ20
    have N20 := Fr.app N19 N20q
    refine Goes.tr (U' := T20.setTop (mkF m 131 #[.val (.int p1), .val (.int p2), .val (.int p3), .val (.int p4), .val (.ref b1), .val (.int (1 : Int32)), .val (.int (2 : Int32)), .val (.int (0 : Int32)), .val (.int (1 : Int32))] [(.int p2)])) st20 ?_
    refine Goes.st (U' := T20.setTop (mkF m 132 #[.val (.int p1), .val (.int p2), .val (.int p3), .val (.int p4), .val (.ref b1), .val (.int (1 : Int32)), .val (.int (2 : Int32)), .val (.int (0 : Int32)), .val (.int (1 : Int32))] [(.int p2), (.int p2)])) (fun t k => XS.iloadN X20.here hx rfl (hb hby at_131) rfl k) ?_
    refine Goes.st (U' := T20.setTop (mkF m 135 #[.val (.int p1), .val (.int p2), .val (.int p3), .val (.int p4), .val (.ref b1), .val (.int (1 : Int32)), .val (.int (2 : Int32)), .val (.int (0 : Int32)), .val (.int (1 : Int32))] [])) (fun t k => XS.icmpNo X20.here hx rfl (hb hby at_132) rfl (teq (rfl : p2 = p2)).2 k) ?_
    refine Goes.st (U' := T20.setTop (mkF m 137 #[.val (.int p1), .val (.int p2), .val (.int p3), .val (.int p4), .val (.ref b1), .val (.int (1 : Int32)), .val (.int (2 : Int32)), .val (.int (0 : Int32)), .val (.int (1 : Int32))] [(.ref b1)])) (fun t k => XS.aload X20.here hx rfl (hb hby at_135) rfl rfl k) ?_
    refine Goes.st (U' := T20.setTop (mkF m 139 #[.val (.int p1), .val (.int p2), .val (.int p3), .val (.int p4), .val (.ref b1), .val (.int (1 : Int32)), .val (.int (2 : Int32)), .val (.int (0 : Int32)), .val (.int (1 : Int32))] [(.int (0 : Int32)), (.ref b1)])) (fun t k => XS.iload X20.here hx rfl (hb hby at_137) rfl k) ?_
    obtain ⟨cq21, kq21, q21a, q21b, q21c⟩ := isOf hZ e20 (PI_exa I18)
    obtain ⟨_, _, ⟨T21, L21, k21, n21⟩, -, X21, ⟨Lc21, hQ21, l21, y21, z21⟩, st21⟩ := X20.virtualBack hx (y := (⟨"com/example/chaise/chaise/core/PackedInts", "get", "(I)I"⟩ : MethodName)) (z := (⟨"com/example/chaise/chaise/core/PackedInts", "get", "(I)I"⟩ : MethodName)) hown (mvT hZ (hw _ (List.mem_of_getElem? (i := 21) rfl))) (mvT hZ (hw _ (List.mem_of_getElem? (i := 22) rfl))) (notFace_of_selects (args := #[]) (mvT hZ (hw _ (List.mem_of_getElem? (i := 24) rfl)))) (mvT hZ (hw _ (List.mem_of_getElem? (i := 24) rfl))) (mvT hZ (hw _ (List.mem_of_getElem? (i := 23) rfl))) (by decide) (backOf (W := 0) (rmG0 l Z a0 hw [] b1 (0 : Int32) p3 p1 p2 T18.heap n0 Z18 (I18) (rfl)) hZ (hw _ (List.mem_of_getElem? (i := 25) rfl)) (hw _ (List.mem_of_getElem? (i := 2) rfl)) (by decide) (by decide)) q21a q21c (g := (mkF m 139 #[.val (.int p1), .val (.int p2), .val (.int p3), .val (.int p4), .val (.ref b1), .val (.int (1 : Int32)), .val (.int (2 : Int32)), .val (.int (0 : Int32)), .val (.int (1 : Int32))] [(.int (0 : Int32)), (.ref b1)])) rfl (by rw [hml]; rfl) (Steps.refl _) (argsL := [(.int (0 : Int32))]) (rest := []) (lenOf pd_1 rfl) rfl (by show 2 * 0 + _ ≤ _; exact Nat.le_of_eq rfl) (hb hby at_139) (fun _ _ => ⟨rfl, e20, (by decide : 8 + 0 ≤ _), (by decide : 57 + 0 ≤ _)⟩)
    dsimp only [Pt.U, Pt.locs, Pt.cells, Pt.slots] at X21 l21 y21 z21 st21 hQ21
    subst l21 y21 z21
    obtain ⟨rfl, N21q, e21⟩ := hQ21
    have N21 := Fr.app N20 N21q
    refine Goes.tr (U' := T21.setTop (mkF m 142 #[.val (.int p1), .val (.int p2), .val (.int p3), .val (.int p4), .val (.ref b1), .val (.int (1 : Int32)), .val (.int (2 : Int32)), .val (.int (0 : Int32)), .val (.int (1 : Int32))] [(.int p3)])) st21 ?_
    refine Goes.st (U' := T21.setTop (mkF m 143 #[.val (.int p1), .val (.int p2), .val (.int p3), .val (.int p4), .val (.ref b1), .val (.int (1 : Int32)), .val (.int (2 : Int32)), .val (.int (0 : Int32)), .val (.int (1 : Int32))] [(.int p3), (.int p3)])) (fun t k => XS.iloadN X21.here hx rfl (hb hby at_142) rfl k) ?_
    refine Goes.st (U' := T21.setTop (mkF m 146 #[.val (.int p1), .val (.int p2), .val (.int p3), .val (.int p4), .val (.ref b1), .val (.int (1 : Int32)), .val (.int (2 : Int32)), .val (.int (0 : Int32)), .val (.int (1 : Int32))] [])) (fun t k => XS.icmpNo X21.here hx rfl (hb hby at_143) rfl (teq (rfl : p3 = p3)).2 k) ?_
    refine Goes.st (U' := T21.setTop (mkF m 147 #[.val (.int p1), .val (.int p2), .val (.int p3), .val (.int p4), .val (.ref b1), .val (.int (1 : Int32)), .val (.int (2 : Int32)), .val (.int (0 : Int32)), .val (.int (1 : Int32))] [(.int (1 : Int32))])) (fun t k => XS.iconst X21.here hx rfl (hb hby at_146) k) ?_
    refine Goes.st (U' := T21.setTop (mkF m 151 #[.val (.int p1), .val (.int p2), .val (.int p3), .val (.int p4), .val (.ref b1), .val (.int (1 : Int32)), .val (.int (2 : Int32)), .val (.int (0 : Int32)), .val (.int (1 : Int32))] [(.int (1 : Int32))])) (fun t k => XS.goto X21.here hx rfl (pc0 := 147) (pc' := 151) rfl (hb hby at_147) (by decide) (by decide) k) ?_
    refine Goes.st (U' := T21.setTop (mkF m 153 #[.val (.int p1), .val (.int p2), .val (.int p3), .val (.int p4), .val (.ref b1), .val (.int (1 : Int32)), .val (.int (2 : Int32)), .val (.int (0 : Int32)), .val (.int (1 : Int32))] [])) (fun t k => XS.istore X21.here hx rfl (hb hby at_151) rfl (l' := #[.val (.int p1), .val (.int p2), .val (.int p3), .val (.int p4), .val (.ref b1), .val (.int (1 : Int32)), .val (.int (2 : Int32)), .val (.int (0 : Int32)), .val (.int (1 : Int32))]) rfl k) ?_
    refine Goes.st (U' := T21.setTop (mkF m 155 #[.val (.int p1), .val (.int p2), .val (.int p3), .val (.int p4), .val (.ref b1), .val (.int (1 : Int32)), .val (.int (2 : Int32)), .val (.int (0 : Int32)), .val (.int (1 : Int32))] [(.int (1 : Int32))])) (fun t k => XS.iload X21.here hx rfl (hb hby at_153) rfl k) ?_
    refine Goes.retZ X21 hx (BodyLoose.notSynchronized Bd) Bd.returns (hb hby at_155) rfl (by decide) (by decide) ?_
    show Q0 Z p1 p2 p3 p4 h0 n0 _ T21.heap _
    rw [e21]
    exact ⟨rfl, N21⟩
  · skip
    refine Goes.st (U' := T2.setTop (mkF m 18 #[.val (.int p1), .val (.int p2), .val (.int p3), .val (.int p4), .val (.ref b1), .val (.int (2 : Int32)), .unset, .unset, .unset] [])) (fun t k => XS.istore X2.here hx rfl (hb hby at_16) rfl (l' := #[.val (.int p1), .val (.int p2), .val (.int p3), .val (.int p4), .val (.ref b1), .val (.int (2 : Int32)), .unset, .unset, .unset]) rfl k) ?_
    refine Goes.st (U' := T2.setTop (mkF m 20 #[.val (.int p1), .val (.int p2), .val (.int p3), .val (.int p4), .val (.ref b1), .val (.int (2 : Int32)), .unset, .unset, .unset] [(.int (2 : Int32))])) (fun t k => XS.iload X2.here hx rfl (hb hby at_18) rfl k) ?_
    refine Goes.st (U' := T2.setTop (mkF m 21 #[.val (.int p1), .val (.int p2), .val (.int p3), .val (.int p4), .val (.ref b1), .val (.int (2 : Int32)), .unset, .unset, .unset] [(.int (1 : Int32)), (.int (2 : Int32))])) (fun t k => XS.iconst X2.here hx rfl (hb hby at_20) k) ?_
    refine Goes.st (U' := T2.setTop (mkF m 22 #[.val (.int p1), .val (.int p2), .val (.int p3), .val (.int p4), .val (.ref b1), .val (.int (2 : Int32)), .unset, .unset, .unset] [(.int (3 : Int32))])) (fun t k => XS.iadd X2.here hx rfl (hb hby at_21) rfl k) ?_
    refine Goes.st (U' := T2.setTop (mkF m 23 #[.val (.int p1), .val (.int p2), .val (.int p3), .val (.int p4), .val (.ref b1), .val (.int (2 : Int32)), .unset, .unset, .unset] [(.int (3 : Int32)), (.int (3 : Int32))])) (fun t k => XS.iconst X2.here hx rfl (hb hby at_22) k) ?_
    refine Goes.st (U' := T2.setTop (mkF m 24 #[.val (.int p1), .val (.int p2), .val (.int p3), .val (.int p4), .val (.ref b1), .val (.int (2 : Int32)), .unset, .unset, .unset] [(.int ((3 : Int32) % (3 : Int32)))])) (fun t k => iremM X2 hx rfl (hb hby at_23) rfl (by decide : ¬ ((3 : Int32) = (0 : Int32))) k) ?_
    rw [(by decide +kernel : ((3 : Int32) % (3 : Int32)) = (0 : Int32))]
    refine Goes.st (U' := T2.setTop (mkF m 26 #[.val (.int p1), .val (.int p2), .val (.int p3), .val (.int p4), .val (.ref b1), .val (.int (2 : Int32)), .val (.int (0 : Int32)), .unset, .unset] [])) (fun t k => XS.istore X2.here hx rfl (hb hby at_24) rfl (l' := #[.val (.int p1), .val (.int p2), .val (.int p3), .val (.int p4), .val (.ref b1), .val (.int (2 : Int32)), .val (.int (0 : Int32)), .unset, .unset]) rfl k) ?_
    refine Goes.st (U' := T2.setTop (mkF m 28 #[.val (.int p1), .val (.int p2), .val (.int p3), .val (.int p4), .val (.ref b1), .val (.int (2 : Int32)), .val (.int (0 : Int32)), .unset, .unset] [(.int (2 : Int32))])) (fun t k => XS.iload X2.here hx rfl (hb hby at_26) rfl k) ?_
    refine Goes.st (U' := T2.setTop (mkF m 29 #[.val (.int p1), .val (.int p2), .val (.int p3), .val (.int p4), .val (.ref b1), .val (.int (2 : Int32)), .val (.int (0 : Int32)), .unset, .unset] [(.int (2 : Int32)), (.int (2 : Int32))])) (fun t k => XS.iconst X2.here hx rfl (hb hby at_28) k) ?_
    refine Goes.st (U' := T2.setTop (mkF m 30 #[.val (.int p1), .val (.int p2), .val (.int p3), .val (.int p4), .val (.ref b1), .val (.int (2 : Int32)), .val (.int (0 : Int32)), .unset, .unset] [(.int (4 : Int32))])) (fun t k => XS.iadd X2.here hx rfl (hb hby at_29) rfl k) ?_
    refine Goes.st (U' := T2.setTop (mkF m 31 #[.val (.int p1), .val (.int p2), .val (.int p3), .val (.int p4), .val (.ref b1), .val (.int (2 : Int32)), .val (.int (0 : Int32)), .unset, .unset] [(.int (3 : Int32)), (.int (4 : Int32))])) (fun t k => XS.iconst X2.here hx rfl (hb hby at_30) k) ?_
    refine Goes.st (U' := T2.setTop (mkF m 32 #[.val (.int p1), .val (.int p2), .val (.int p3), .val (.int p4), .val (.ref b1), .val (.int (2 : Int32)), .val (.int (0 : Int32)), .unset, .unset] [(.int ((4 : Int32) % (3 : Int32)))])) (fun t k => iremM X2 hx rfl (hb hby at_31) rfl (by decide : ¬ ((3 : Int32) = (0 : Int32))) k) ?_
    rw [(by decide +kernel : ((4 : Int32) % (3 : Int32)) = (1 : Int32))]
    refine Goes.st (U' := T2.setTop (mkF m 34 #[.val (.int p1), .val (.int p2), .val (.int p3), .val (.int p4), .val (.ref b1), .val (.int (2 : Int32)), .val (.int (0 : Int32)), .val (.int (1 : Int32)), .unset] [])) (fun t k => XS.istore X2.here hx rfl (hb hby at_32) rfl (l' := #[.val (.int p1), .val (.int p2), .val (.int p3), .val (.int p4), .val (.ref b1), .val (.int (2 : Int32)), .val (.int (0 : Int32)), .val (.int (1 : Int32)), .unset]) rfl k) ?_
    refine Goes.st (U' := T2.setTop (mkF m 36 #[.val (.int p1), .val (.int p2), .val (.int p3), .val (.int p4), .val (.ref b1), .val (.int (2 : Int32)), .val (.int (0 : Int32)), .val (.int (1 : Int32)), .unset] [(.ref b1)])) (fun t k => XS.aload X2.here hx rfl (hb hby at_34) rfl rfl k) ?_
    refine Goes.st (U' := T2.setTop (mkF m 38 #[.val (.int p1), .val (.int p2), .val (.int p3), .val (.int p4), .val (.ref b1), .val (.int (2 : Int32)), .val (.int (0 : Int32)), .val (.int (1 : Int32)), .unset] [(.int (0 : Int32)), (.ref b1)])) (fun t k => XS.iload X2.here hx rfl (hb hby at_36) rfl k) ?_
    obtain ⟨cq22, kq22, q22a, q22b, q22c⟩ := isOf hZ rfl (PI_exa I2)
    obtain ⟨_, _, ⟨T22, L22, k22, n22⟩, -, X22, ⟨Lc22, hQ22, l22, y22, z22⟩, st22⟩ := X2.virtualBack hx (y := (⟨"com/example/chaise/chaise/core/PackedInts", "get", "(I)I"⟩ : MethodName)) (z := (⟨"com/example/chaise/chaise/core/PackedInts", "get", "(I)I"⟩ : MethodName)) hown (mvT hZ (hw _ (List.mem_of_getElem? (i := 21) rfl))) (mvT hZ (hw _ (List.mem_of_getElem? (i := 22) rfl))) (notFace_of_selects (args := #[]) (mvT hZ (hw _ (List.mem_of_getElem? (i := 24) rfl)))) (mvT hZ (hw _ (List.mem_of_getElem? (i := 24) rfl))) (mvT hZ (hw _ (List.mem_of_getElem? (i := 23) rfl))) (by decide) (backOf (W := 0) (rmG0 l Z a0 hw [] b1 (0 : Int32) (0 : Int32) (0 : Int32) (0 : Int32) T2.heap n0 (Nat.le_trans (Nat.le_trans Z0 E1.1) K2.1) (I2) (rfl)) hZ (hw _ (List.mem_of_getElem? (i := 25) rfl)) (hw _ (List.mem_of_getElem? (i := 2) rfl)) (by decide) (by decide)) q22a q22c (g := (mkF m 38 #[.val (.int p1), .val (.int p2), .val (.int p3), .val (.int p4), .val (.ref b1), .val (.int (2 : Int32)), .val (.int (0 : Int32)), .val (.int (1 : Int32)), .unset] [(.int (0 : Int32)), (.ref b1)])) rfl (by rw [hml]; rfl) (Steps.refl _) (argsL := [(.int (0 : Int32))]) (rest := []) (lenOf pd_1 rfl) rfl (by show 2 * 0 + _ ≤ _; exact Nat.le_of_eq rfl) (hb hby at_38) (fun _ _ => ⟨rfl, rfl, (by decide : 2 + 0 ≤ _), (by decide : 12 + 0 ≤ _)⟩)
    dsimp only [Pt.U, Pt.locs, Pt.cells, Pt.slots] at X22 l22 y22 z22 st22 hQ22
    subst l22 y22 z22
    obtain ⟨rfl, N22q, e22⟩ := hQ22
    have N22 := Fr.app N2 N22q
    refine Goes.tr (U' := T22.setTop (mkF m 41 #[.val (.int p1), .val (.int p2), .val (.int p3), .val (.int p4), .val (.ref b1), .val (.int (2 : Int32)), .val (.int (0 : Int32)), .val (.int (1 : Int32)), .unset] [(.int (0 : Int32))])) st22 ?_
    refine Goes.st (U' := T22.setTop (mkF m 44 #[.val (.int p1), .val (.int p2), .val (.int p3), .val (.int p4), .val (.ref b1), .val (.int (2 : Int32)), .val (.int (0 : Int32)), .val (.int (1 : Int32)), .unset] [])) (fun t k => XS.ifNo X22.here hx rfl (hb hby at_41) rfl ((if0 _ _).trans (teq (rfl : (0 : Int32) = (0 : Int32))).2) k) ?_
    refine Goes.st (U' := T22.setTop (mkF m 45 #[.val (.int p1), .val (.int p2), .val (.int p3), .val (.int p4), .val (.ref b1), .val (.int (2 : Int32)), .val (.int (0 : Int32)), .val (.int (1 : Int32)), .unset] [(.int (1 : Int32))])) (fun t k => XS.iconst X22.here hx rfl (hb hby at_44) k) ?_
    refine Goes.st (U' := T22.setTop (mkF m 49 #[.val (.int p1), .val (.int p2), .val (.int p3), .val (.int p4), .val (.ref b1), .val (.int (2 : Int32)), .val (.int (0 : Int32)), .val (.int (1 : Int32)), .unset] [(.int (1 : Int32))])) (fun t k => XS.goto X22.here hx rfl (pc0 := 45) (pc' := 49) rfl (hb hby at_45) (by decide) (by decide) k) ?_
    refine Goes.st (U' := T22.setTop (mkF m 51 #[.val (.int p1), .val (.int p2), .val (.int p3), .val (.int p4), .val (.ref b1), .val (.int (2 : Int32)), .val (.int (0 : Int32)), .val (.int (1 : Int32)), .val (.int (1 : Int32))] [])) (fun t k => XS.istore X22.here hx rfl (hb hby at_49) rfl (l' := #[.val (.int p1), .val (.int p2), .val (.int p3), .val (.int p4), .val (.ref b1), .val (.int (2 : Int32)), .val (.int (0 : Int32)), .val (.int (1 : Int32)), .val (.int (1 : Int32))]) rfl k) ?_
    refine Goes.st (U' := T22.setTop (mkF m 53 #[.val (.int p1), .val (.int p2), .val (.int p3), .val (.int p4), .val (.ref b1), .val (.int (2 : Int32)), .val (.int (0 : Int32)), .val (.int (1 : Int32)), .val (.int (1 : Int32))] [(.ref b1)])) (fun t k => XS.aload X22.here hx rfl (hb hby at_51) rfl rfl k) ?_
    refine Goes.st (U' := T22.setTop (mkF m 55 #[.val (.int p1), .val (.int p2), .val (.int p3), .val (.int p4), .val (.ref b1), .val (.int (2 : Int32)), .val (.int (0 : Int32)), .val (.int (1 : Int32)), .val (.int (1 : Int32))] [(.int (2 : Int32)), (.ref b1)])) (fun t k => XS.iload X22.here hx rfl (hb hby at_53) rfl k) ?_
    refine Goes.st (U' := T22.setTop (mkF m 56 #[.val (.int p1), .val (.int p2), .val (.int p3), .val (.int p4), .val (.ref b1), .val (.int (2 : Int32)), .val (.int (0 : Int32)), .val (.int (1 : Int32)), .val (.int (1 : Int32))] [(.int p1), (.int (2 : Int32)), (.ref b1)])) (fun t k => XS.iloadN X22.here hx rfl (hb hby at_55) rfl k) ?_
    obtain ⟨cq23, kq23, q23a, q23b, q23c⟩ := isOf hZ e22 (PI_exa I2)
    obtain ⟨_, _, ⟨T23, L23, k23, n23⟩, -, X23, ⟨Lc23, hQ23, l23, y23, z23⟩, st23⟩ := X22.virtualBack hx (y := (⟨"com/example/chaise/chaise/core/PackedInts", "set", "(II)V"⟩ : MethodName)) (z := (⟨"com/example/chaise/chaise/core/PackedInts", "set", "(II)V"⟩ : MethodName)) hown (mvT hZ (hw _ (List.mem_of_getElem? (i := 26) rfl))) (mvT hZ (hw _ (List.mem_of_getElem? (i := 27) rfl))) (notFace_of_selects (args := #[]) (mvT hZ (hw _ (List.mem_of_getElem? (i := 29) rfl)))) (mvT hZ (hw _ (List.mem_of_getElem? (i := 29) rfl))) (mvT hZ (hw _ (List.mem_of_getElem? (i := 28) rfl))) (by decide) (backOf (W := 0) (rmS2 l Z a0 hw [] b1 (2 : Int32) p1 (0 : Int32) (0 : Int32) (0 : Int32) T2.heap n0 (Nat.le_trans (Nat.le_trans Z0 E1.1) K2.1) (I2) (rfl) (g_b1)) hZ (hw _ (List.mem_of_getElem? (i := 30) rfl)) (hw _ (List.mem_of_getElem? (i := 2) rfl)) (by decide) (by decide)) q23a q23c (g := (mkF m 56 #[.val (.int p1), .val (.int p2), .val (.int p3), .val (.int p4), .val (.ref b1), .val (.int (2 : Int32)), .val (.int (0 : Int32)), .val (.int (1 : Int32)), .val (.int (1 : Int32))] [(.int p1), (.int (2 : Int32)), (.ref b1)])) rfl (by rw [hml]; rfl) (Steps.refl _) (argsL := [(.int (2 : Int32)), (.int p1)]) (rest := []) (lenOf pd_0 rfl) rfl (by show 2 * 0 + _ ≤ _; exact Nat.le_of_eq rfl) (hb hby at_56) (fun _ _ => ⟨rfl, e22, (by decide : 2 + 2 ≤ _), (by decide : 12 + 15 ≤ _)⟩)
    dsimp only [Pt.U, Pt.locs, Pt.cells, Pt.slots] at X23 l23 y23 z23 st23 hQ23
    subst l23 y23 z23
    obtain ⟨rfl, N23q, Z23, I23⟩ := hQ23
    have N23 := Fr.app N22 N23q
    refine Goes.tr (U' := T23.setTop (mkF m 59 #[.val (.int p1), .val (.int p2), .val (.int p3), .val (.int p4), .val (.ref b1), .val (.int (2 : Int32)), .val (.int (0 : Int32)), .val (.int (1 : Int32)), .val (.int (1 : Int32))] [])) st23 ?_
    refine Goes.st (U' := T23.setTop (mkF m 61 #[.val (.int p1), .val (.int p2), .val (.int p3), .val (.int p4), .val (.ref b1), .val (.int (2 : Int32)), .val (.int (0 : Int32)), .val (.int (1 : Int32)), .val (.int (1 : Int32))] [(.int (1 : Int32))])) (fun t k => XS.iload X23.here hx rfl (hb hby at_59) rfl k) ?_
    refine Goes.st (U' := T23.setTop (mkF m 64 #[.val (.int p1), .val (.int p2), .val (.int p3), .val (.int p4), .val (.ref b1), .val (.int (2 : Int32)), .val (.int (0 : Int32)), .val (.int (1 : Int32)), .val (.int (1 : Int32))] [])) (fun t k => XS.ifNo X23.here hx rfl (hb hby at_61) rfl ((if0 _ _).trans (feq (by decide : ¬ ((1 : Int32) = (0 : Int32)))).1) k) ?_
    refine Goes.st (U' := T23.setTop (mkF m 66 #[.val (.int p1), .val (.int p2), .val (.int p3), .val (.int p4), .val (.ref b1), .val (.int (2 : Int32)), .val (.int (0 : Int32)), .val (.int (1 : Int32)), .val (.int (1 : Int32))] [(.ref b1)])) (fun t k => XS.aload X23.here hx rfl (hb hby at_64) rfl rfl k) ?_
    refine Goes.st (U' := T23.setTop (mkF m 68 #[.val (.int p1), .val (.int p2), .val (.int p3), .val (.int p4), .val (.ref b1), .val (.int (2 : Int32)), .val (.int (0 : Int32)), .val (.int (1 : Int32)), .val (.int (1 : Int32))] [(.int (2 : Int32)), (.ref b1)])) (fun t k => XS.iload X23.here hx rfl (hb hby at_66) rfl k) ?_
    obtain ⟨cq24, kq24, q24a, q24b, q24c⟩ := isOf hZ rfl (PI_exa I23)
    obtain ⟨_, _, ⟨T24, L24, k24, n24⟩, -, X24, ⟨Lc24, hQ24, l24, y24, z24⟩, st24⟩ := X23.virtualBack hx (y := (⟨"com/example/chaise/chaise/core/PackedInts", "get", "(I)I"⟩ : MethodName)) (z := (⟨"com/example/chaise/chaise/core/PackedInts", "get", "(I)I"⟩ : MethodName)) hown (mvT hZ (hw _ (List.mem_of_getElem? (i := 21) rfl))) (mvT hZ (hw _ (List.mem_of_getElem? (i := 22) rfl))) (notFace_of_selects (args := #[]) (mvT hZ (hw _ (List.mem_of_getElem? (i := 24) rfl)))) (mvT hZ (hw _ (List.mem_of_getElem? (i := 24) rfl))) (mvT hZ (hw _ (List.mem_of_getElem? (i := 23) rfl))) (by decide) (backOf (W := 0) (rmG2 l Z a0 hw [] b1 (2 : Int32) (0 : Int32) (0 : Int32) p1 T23.heap n0 Z23 (I23) (rfl)) hZ (hw _ (List.mem_of_getElem? (i := 25) rfl)) (hw _ (List.mem_of_getElem? (i := 2) rfl)) (by decide) (by decide)) q24a q24c (g := (mkF m 68 #[.val (.int p1), .val (.int p2), .val (.int p3), .val (.int p4), .val (.ref b1), .val (.int (2 : Int32)), .val (.int (0 : Int32)), .val (.int (1 : Int32)), .val (.int (1 : Int32))] [(.int (2 : Int32)), (.ref b1)])) rfl (by rw [hml]; rfl) (Steps.refl _) (argsL := [(.int (2 : Int32))]) (rest := []) (lenOf pd_1 rfl) rfl (by show 2 * 0 + _ ≤ _; exact Nat.le_of_eq rfl) (hb hby at_68) (fun _ _ => ⟨rfl, rfl, (by decide : 4 + 0 ≤ _), (by decide : 27 + 0 ≤ _)⟩)
    dsimp only [Pt.U, Pt.locs, Pt.cells, Pt.slots] at X24 l24 y24 z24 st24 hQ24
    subst l24 y24 z24
    obtain ⟨rfl, N24q, e24⟩ := hQ24
    have N24 := Fr.app N23 N24q
    refine Goes.tr (U' := T24.setTop (mkF m 71 #[.val (.int p1), .val (.int p2), .val (.int p3), .val (.int p4), .val (.ref b1), .val (.int (2 : Int32)), .val (.int (0 : Int32)), .val (.int (1 : Int32)), .val (.int (1 : Int32))] [(.int p1)])) st24 ?_
    refine Goes.st (U' := T24.setTop (mkF m 72 #[.val (.int p1), .val (.int p2), .val (.int p3), .val (.int p4), .val (.ref b1), .val (.int (2 : Int32)), .val (.int (0 : Int32)), .val (.int (1 : Int32)), .val (.int (1 : Int32))] [(.int p1), (.int p1)])) (fun t k => XS.iloadN X24.here hx rfl (hb hby at_71) rfl k) ?_
    refine Goes.st (U' := T24.setTop (mkF m 75 #[.val (.int p1), .val (.int p2), .val (.int p3), .val (.int p4), .val (.ref b1), .val (.int (2 : Int32)), .val (.int (0 : Int32)), .val (.int (1 : Int32)), .val (.int (1 : Int32))] [])) (fun t k => XS.icmpNo X24.here hx rfl (hb hby at_72) rfl (teq (rfl : p1 = p1)).2 k) ?_
    refine Goes.st (U' := T24.setTop (mkF m 77 #[.val (.int p1), .val (.int p2), .val (.int p3), .val (.int p4), .val (.ref b1), .val (.int (2 : Int32)), .val (.int (0 : Int32)), .val (.int (1 : Int32)), .val (.int (1 : Int32))] [(.ref b1)])) (fun t k => XS.aload X24.here hx rfl (hb hby at_75) rfl rfl k) ?_
    refine Goes.st (U' := T24.setTop (mkF m 79 #[.val (.int p1), .val (.int p2), .val (.int p3), .val (.int p4), .val (.ref b1), .val (.int (2 : Int32)), .val (.int (0 : Int32)), .val (.int (1 : Int32)), .val (.int (1 : Int32))] [(.int (0 : Int32)), (.ref b1)])) (fun t k => XS.iload X24.here hx rfl (hb hby at_77) rfl k) ?_
    obtain ⟨cq25, kq25, q25a, q25b, q25c⟩ := isOf hZ e24 (PI_exa I23)
    obtain ⟨_, _, ⟨T25, L25, k25, n25⟩, -, X25, ⟨Lc25, hQ25, l25, y25, z25⟩, st25⟩ := X24.virtualBack hx (y := (⟨"com/example/chaise/chaise/core/PackedInts", "get", "(I)I"⟩ : MethodName)) (z := (⟨"com/example/chaise/chaise/core/PackedInts", "get", "(I)I"⟩ : MethodName)) hown (mvT hZ (hw _ (List.mem_of_getElem? (i := 21) rfl))) (mvT hZ (hw _ (List.mem_of_getElem? (i := 22) rfl))) (notFace_of_selects (args := #[]) (mvT hZ (hw _ (List.mem_of_getElem? (i := 24) rfl)))) (mvT hZ (hw _ (List.mem_of_getElem? (i := 24) rfl))) (mvT hZ (hw _ (List.mem_of_getElem? (i := 23) rfl))) (by decide) (backOf (W := 0) (rmG0 l Z a0 hw [] b1 (0 : Int32) (0 : Int32) (0 : Int32) p1 T23.heap n0 Z23 (I23) (rfl)) hZ (hw _ (List.mem_of_getElem? (i := 25) rfl)) (hw _ (List.mem_of_getElem? (i := 2) rfl)) (by decide) (by decide)) q25a q25c (g := (mkF m 79 #[.val (.int p1), .val (.int p2), .val (.int p3), .val (.int p4), .val (.ref b1), .val (.int (2 : Int32)), .val (.int (0 : Int32)), .val (.int (1 : Int32)), .val (.int (1 : Int32))] [(.int (0 : Int32)), (.ref b1)])) rfl (by rw [hml]; rfl) (Steps.refl _) (argsL := [(.int (0 : Int32))]) (rest := []) (lenOf pd_1 rfl) rfl (by show 2 * 0 + _ ≤ _; exact Nat.le_of_eq rfl) (hb hby at_79) (fun _ _ => ⟨rfl, e24, (by decide : 4 + 0 ≤ _), (by decide : 27 + 0 ≤ _)⟩)
    dsimp only [Pt.U, Pt.locs, Pt.cells, Pt.slots] at X25 l25 y25 z25 st25 hQ25
    subst l25 y25 z25
    obtain ⟨rfl, N25q, e25⟩ := hQ25
    have N25 := Fr.app N24 N25q
    refine Goes.tr (U' := T25.setTop (mkF m 82 #[.val (.int p1), .val (.int p2), .val (.int p3), .val (.int p4), .val (.ref b1), .val (.int (2 : Int32)), .val (.int (0 : Int32)), .val (.int (1 : Int32)), .val (.int (1 : Int32))] [(.int (0 : Int32))])) st25 ?_
    refine Goes.st (U' := T25.setTop (mkF m 85 #[.val (.int p1), .val (.int p2), .val (.int p3), .val (.int p4), .val (.ref b1), .val (.int (2 : Int32)), .val (.int (0 : Int32)), .val (.int (1 : Int32)), .val (.int (1 : Int32))] [])) (fun t k => XS.ifNo X25.here hx rfl (hb hby at_82) rfl ((if0 _ _).trans (teq (rfl : (0 : Int32) = (0 : Int32))).2) k) ?_
    refine Goes.st (U' := T25.setTop (mkF m 86 #[.val (.int p1), .val (.int p2), .val (.int p3), .val (.int p4), .val (.ref b1), .val (.int (2 : Int32)), .val (.int (0 : Int32)), .val (.int (1 : Int32)), .val (.int (1 : Int32))] [(.int (1 : Int32))])) (fun t k => XS.iconst X25.here hx rfl (hb hby at_85) k) ?_
    refine Goes.st (U' := T25.setTop (mkF m 90 #[.val (.int p1), .val (.int p2), .val (.int p3), .val (.int p4), .val (.ref b1), .val (.int (2 : Int32)), .val (.int (0 : Int32)), .val (.int (1 : Int32)), .val (.int (1 : Int32))] [(.int (1 : Int32))])) (fun t k => XS.goto X25.here hx rfl (pc0 := 86) (pc' := 90) rfl (hb hby at_86) (by decide) (by decide) k) ?_
    refine Goes.st (U' := T25.setTop (mkF m 92 #[.val (.int p1), .val (.int p2), .val (.int p3), .val (.int p4), .val (.ref b1), .val (.int (2 : Int32)), .val (.int (0 : Int32)), .val (.int (1 : Int32)), .val (.int (1 : Int32))] [])) (fun t k => XS.istore X25.here hx rfl (hb hby at_90) rfl (l' := #[.val (.int p1), .val (.int p2), .val (.int p3), .val (.int p4), .val (.ref b1), .val (.int (2 : Int32)), .val (.int (0 : Int32)), .val (.int (1 : Int32)), .val (.int (1 : Int32))]) rfl k) ?_
    refine Goes.st (U' := T25.setTop (mkF m 94 #[.val (.int p1), .val (.int p2), .val (.int p3), .val (.int p4), .val (.ref b1), .val (.int (2 : Int32)), .val (.int (0 : Int32)), .val (.int (1 : Int32)), .val (.int (1 : Int32))] [(.ref b1)])) (fun t k => XS.aload X25.here hx rfl (hb hby at_92) rfl rfl k) ?_
    refine Goes.st (U' := T25.setTop (mkF m 96 #[.val (.int p1), .val (.int p2), .val (.int p3), .val (.int p4), .val (.ref b1), .val (.int (2 : Int32)), .val (.int (0 : Int32)), .val (.int (1 : Int32)), .val (.int (1 : Int32))] [(.int (0 : Int32)), (.ref b1)])) (fun t k => XS.iload X25.here hx rfl (hb hby at_94) rfl k) ?_
    refine Goes.st (U' := T25.setTop (mkF m 97 #[.val (.int p1), .val (.int p2), .val (.int p3), .val (.int p4), .val (.ref b1), .val (.int (2 : Int32)), .val (.int (0 : Int32)), .val (.int (1 : Int32)), .val (.int (1 : Int32))] [(.int p2), (.int (0 : Int32)), (.ref b1)])) (fun t k => XS.iloadN X25.here hx rfl (hb hby at_96) rfl k) ?_
    obtain ⟨cq26, kq26, q26a, q26b, q26c⟩ := isOf hZ e25 (PI_exa I23)
    obtain ⟨_, _, ⟨T26, L26, k26, n26⟩, -, X26, ⟨Lc26, hQ26, l26, y26, z26⟩, st26⟩ := X25.virtualBack hx (y := (⟨"com/example/chaise/chaise/core/PackedInts", "set", "(II)V"⟩ : MethodName)) (z := (⟨"com/example/chaise/chaise/core/PackedInts", "set", "(II)V"⟩ : MethodName)) hown (mvT hZ (hw _ (List.mem_of_getElem? (i := 26) rfl))) (mvT hZ (hw _ (List.mem_of_getElem? (i := 27) rfl))) (notFace_of_selects (args := #[]) (mvT hZ (hw _ (List.mem_of_getElem? (i := 29) rfl)))) (mvT hZ (hw _ (List.mem_of_getElem? (i := 29) rfl))) (mvT hZ (hw _ (List.mem_of_getElem? (i := 28) rfl))) (by decide) (backOf (W := 0) (rmS0 l Z a0 hw [] b1 (0 : Int32) p2 (0 : Int32) (0 : Int32) p1 T23.heap n0 Z23 (I23) (rfl) (g_b1)) hZ (hw _ (List.mem_of_getElem? (i := 30) rfl)) (hw _ (List.mem_of_getElem? (i := 2) rfl)) (by decide) (by decide)) q26a q26c (g := (mkF m 97 #[.val (.int p1), .val (.int p2), .val (.int p3), .val (.int p4), .val (.ref b1), .val (.int (2 : Int32)), .val (.int (0 : Int32)), .val (.int (1 : Int32)), .val (.int (1 : Int32))] [(.int p2), (.int (0 : Int32)), (.ref b1)])) rfl (by rw [hml]; rfl) (Steps.refl _) (argsL := [(.int (0 : Int32)), (.int p2)]) (rest := []) (lenOf pd_0 rfl) rfl (by show 2 * 0 + _ ≤ _; exact Nat.le_of_eq rfl) (hb hby at_97) (fun _ _ => ⟨rfl, e25, (by decide : 4 + 2 ≤ _), (by decide : 27 + 15 ≤ _)⟩)
    dsimp only [Pt.U, Pt.locs, Pt.cells, Pt.slots] at X26 l26 y26 z26 st26 hQ26
    subst l26 y26 z26
    obtain ⟨rfl, N26q, Z26, I26⟩ := hQ26
    have N26 := Fr.app N25 N26q
    refine Goes.tr (U' := T26.setTop (mkF m 100 #[.val (.int p1), .val (.int p2), .val (.int p3), .val (.int p4), .val (.ref b1), .val (.int (2 : Int32)), .val (.int (0 : Int32)), .val (.int (1 : Int32)), .val (.int (1 : Int32))] [])) st26 ?_
    refine Goes.st (U' := T26.setTop (mkF m 102 #[.val (.int p1), .val (.int p2), .val (.int p3), .val (.int p4), .val (.ref b1), .val (.int (2 : Int32)), .val (.int (0 : Int32)), .val (.int (1 : Int32)), .val (.int (1 : Int32))] [(.ref b1)])) (fun t k => XS.aload X26.here hx rfl (hb hby at_100) rfl rfl k) ?_
    refine Goes.st (U' := T26.setTop (mkF m 104 #[.val (.int p1), .val (.int p2), .val (.int p3), .val (.int p4), .val (.ref b1), .val (.int (2 : Int32)), .val (.int (0 : Int32)), .val (.int (1 : Int32)), .val (.int (1 : Int32))] [(.int (1 : Int32)), (.ref b1)])) (fun t k => XS.iload X26.here hx rfl (hb hby at_102) rfl k) ?_
    refine Goes.st (U' := T26.setTop (mkF m 105 #[.val (.int p1), .val (.int p2), .val (.int p3), .val (.int p4), .val (.ref b1), .val (.int (2 : Int32)), .val (.int (0 : Int32)), .val (.int (1 : Int32)), .val (.int (1 : Int32))] [(.int p3), (.int (1 : Int32)), (.ref b1)])) (fun t k => XS.iloadN X26.here hx rfl (hb hby at_104) rfl k) ?_
    obtain ⟨cq27, kq27, q27a, q27b, q27c⟩ := isOf hZ rfl (PI_exa I26)
    obtain ⟨_, _, ⟨T27, L27, k27, n27⟩, -, X27, ⟨Lc27, hQ27, l27, y27, z27⟩, st27⟩ := X26.virtualBack hx (y := (⟨"com/example/chaise/chaise/core/PackedInts", "set", "(II)V"⟩ : MethodName)) (z := (⟨"com/example/chaise/chaise/core/PackedInts", "set", "(II)V"⟩ : MethodName)) hown (mvT hZ (hw _ (List.mem_of_getElem? (i := 26) rfl))) (mvT hZ (hw _ (List.mem_of_getElem? (i := 27) rfl))) (notFace_of_selects (args := #[]) (mvT hZ (hw _ (List.mem_of_getElem? (i := 29) rfl)))) (mvT hZ (hw _ (List.mem_of_getElem? (i := 29) rfl))) (mvT hZ (hw _ (List.mem_of_getElem? (i := 28) rfl))) (by decide) (backOf (W := 0) (rmS1 l Z a0 hw [] b1 (1 : Int32) p3 p2 (0 : Int32) p1 T26.heap n0 Z26 (I26) (rfl) (g_b1)) hZ (hw _ (List.mem_of_getElem? (i := 30) rfl)) (hw _ (List.mem_of_getElem? (i := 2) rfl)) (by decide) (by decide)) q27a q27c (g := (mkF m 105 #[.val (.int p1), .val (.int p2), .val (.int p3), .val (.int p4), .val (.ref b1), .val (.int (2 : Int32)), .val (.int (0 : Int32)), .val (.int (1 : Int32)), .val (.int (1 : Int32))] [(.int p3), (.int (1 : Int32)), (.ref b1)])) rfl (by rw [hml]; rfl) (Steps.refl _) (argsL := [(.int (1 : Int32)), (.int p3)]) (rest := []) (lenOf pd_0 rfl) rfl (by show 2 * 0 + _ ≤ _; exact Nat.le_of_eq rfl) (hb hby at_105) (fun _ _ => ⟨rfl, rfl, (by decide : 6 + 2 ≤ _), (by decide : 42 + 15 ≤ _)⟩)
    dsimp only [Pt.U, Pt.locs, Pt.cells, Pt.slots] at X27 l27 y27 z27 st27 hQ27
    subst l27 y27 z27
    obtain ⟨rfl, N27q, Z27, I27⟩ := hQ27
    have N27 := Fr.app N26 N27q
    refine Goes.tr (U' := T27.setTop (mkF m 108 #[.val (.int p1), .val (.int p2), .val (.int p3), .val (.int p4), .val (.ref b1), .val (.int (2 : Int32)), .val (.int (0 : Int32)), .val (.int (1 : Int32)), .val (.int (1 : Int32))] [])) st27 ?_
    refine Goes.st (U' := T27.setTop (mkF m 110 #[.val (.int p1), .val (.int p2), .val (.int p3), .val (.int p4), .val (.ref b1), .val (.int (2 : Int32)), .val (.int (0 : Int32)), .val (.int (1 : Int32)), .val (.int (1 : Int32))] [(.int (1 : Int32))])) (fun t k => XS.iload X27.here hx rfl (hb hby at_108) rfl k) ?_
    refine Goes.st (U' := T27.setTop (mkF m 113 #[.val (.int p1), .val (.int p2), .val (.int p3), .val (.int p4), .val (.ref b1), .val (.int (2 : Int32)), .val (.int (0 : Int32)), .val (.int (1 : Int32)), .val (.int (1 : Int32))] [])) (fun t k => XS.ifNo X27.here hx rfl (hb hby at_110) rfl ((if0 _ _).trans (feq (by decide : ¬ ((1 : Int32) = (0 : Int32)))).1) k) ?_
    refine Goes.st (U' := T27.setTop (mkF m 115 #[.val (.int p1), .val (.int p2), .val (.int p3), .val (.int p4), .val (.ref b1), .val (.int (2 : Int32)), .val (.int (0 : Int32)), .val (.int (1 : Int32)), .val (.int (1 : Int32))] [(.ref b1)])) (fun t k => XS.aload X27.here hx rfl (hb hby at_113) rfl rfl k) ?_
    refine Goes.st (U' := T27.setTop (mkF m 117 #[.val (.int p1), .val (.int p2), .val (.int p3), .val (.int p4), .val (.ref b1), .val (.int (2 : Int32)), .val (.int (0 : Int32)), .val (.int (1 : Int32)), .val (.int (1 : Int32))] [(.int (2 : Int32)), (.ref b1)])) (fun t k => XS.iload X27.here hx rfl (hb hby at_115) rfl k) ?_
    obtain ⟨cq28, kq28, q28a, q28b, q28c⟩ := isOf hZ rfl (PI_exa I27)
    obtain ⟨_, _, ⟨T28, L28, k28, n28⟩, -, X28, ⟨Lc28, hQ28, l28, y28, z28⟩, st28⟩ := X27.virtualBack hx (y := (⟨"com/example/chaise/chaise/core/PackedInts", "get", "(I)I"⟩ : MethodName)) (z := (⟨"com/example/chaise/chaise/core/PackedInts", "get", "(I)I"⟩ : MethodName)) hown (mvT hZ (hw _ (List.mem_of_getElem? (i := 21) rfl))) (mvT hZ (hw _ (List.mem_of_getElem? (i := 22) rfl))) (notFace_of_selects (args := #[]) (mvT hZ (hw _ (List.mem_of_getElem? (i := 24) rfl)))) (mvT hZ (hw _ (List.mem_of_getElem? (i := 24) rfl))) (mvT hZ (hw _ (List.mem_of_getElem? (i := 23) rfl))) (by decide) (backOf (W := 0) (rmG2 l Z a0 hw [] b1 (2 : Int32) p2 p3 p1 T27.heap n0 Z27 (I27) (rfl)) hZ (hw _ (List.mem_of_getElem? (i := 25) rfl)) (hw _ (List.mem_of_getElem? (i := 2) rfl)) (by decide) (by decide)) q28a q28c (g := (mkF m 117 #[.val (.int p1), .val (.int p2), .val (.int p3), .val (.int p4), .val (.ref b1), .val (.int (2 : Int32)), .val (.int (0 : Int32)), .val (.int (1 : Int32)), .val (.int (1 : Int32))] [(.int (2 : Int32)), (.ref b1)])) rfl (by rw [hml]; rfl) (Steps.refl _) (argsL := [(.int (2 : Int32))]) (rest := []) (lenOf pd_1 rfl) rfl (by show 2 * 0 + _ ≤ _; exact Nat.le_of_eq rfl) (hb hby at_117) (fun _ _ => ⟨rfl, rfl, (by decide : 8 + 0 ≤ _), (by decide : 57 + 0 ≤ _)⟩)
    dsimp only [Pt.U, Pt.locs, Pt.cells, Pt.slots] at X28 l28 y28 z28 st28 hQ28
    subst l28 y28 z28
    obtain ⟨rfl, N28q, e28⟩ := hQ28
    have N28 := Fr.app N27 N28q
    refine Goes.tr (U' := T28.setTop (mkF m 120 #[.val (.int p1), .val (.int p2), .val (.int p3), .val (.int p4), .val (.ref b1), .val (.int (2 : Int32)), .val (.int (0 : Int32)), .val (.int (1 : Int32)), .val (.int (1 : Int32))] [(.int p1)])) st28 ?_
    refine Goes.st (U' := T28.setTop (mkF m 121 #[.val (.int p1), .val (.int p2), .val (.int p3), .val (.int p4), .val (.ref b1), .val (.int (2 : Int32)), .val (.int (0 : Int32)), .val (.int (1 : Int32)), .val (.int (1 : Int32))] [(.int p1), (.int p1)])) (fun t k => XS.iloadN X28.here hx rfl (hb hby at_120) rfl k) ?_
    refine Goes.st (U' := T28.setTop (mkF m 124 #[.val (.int p1), .val (.int p2), .val (.int p3), .val (.int p4), .val (.ref b1), .val (.int (2 : Int32)), .val (.int (0 : Int32)), .val (.int (1 : Int32)), .val (.int (1 : Int32))] [])) (fun t k => XS.icmpNo X28.here hx rfl (hb hby at_121) rfl (teq (rfl : p1 = p1)).2 k) ?_
    refine Goes.st (U' := T28.setTop (mkF m 126 #[.val (.int p1), .val (.int p2), .val (.int p3), .val (.int p4), .val (.ref b1), .val (.int (2 : Int32)), .val (.int (0 : Int32)), .val (.int (1 : Int32)), .val (.int (1 : Int32))] [(.ref b1)])) (fun t k => XS.aload X28.here hx rfl (hb hby at_124) rfl rfl k) ?_
    refine Goes.st (U' := T28.setTop (mkF m 128 #[.val (.int p1), .val (.int p2), .val (.int p3), .val (.int p4), .val (.ref b1), .val (.int (2 : Int32)), .val (.int (0 : Int32)), .val (.int (1 : Int32)), .val (.int (1 : Int32))] [(.int (0 : Int32)), (.ref b1)])) (fun t k => XS.iload X28.here hx rfl (hb hby at_126) rfl k) ?_
    obtain ⟨cq29, kq29, q29a, q29b, q29c⟩ := isOf hZ e28 (PI_exa I27)
    obtain ⟨_, _, ⟨T29, L29, k29, n29⟩, -, X29, ⟨Lc29, hQ29, l29, y29, z29⟩, st29⟩ := X28.virtualBack hx (y := (⟨"com/example/chaise/chaise/core/PackedInts", "get", "(I)I"⟩ : MethodName)) (z := (⟨"com/example/chaise/chaise/core/PackedInts", "get", "(I)I"⟩ : MethodName)) hown (mvT hZ (hw _ (List.mem_of_getElem? (i := 21) rfl))) (mvT hZ (hw _ (List.mem_of_getElem? (i := 22) rfl))) (notFace_of_selects (args := #[]) (mvT hZ (hw _ (List.mem_of_getElem? (i := 24) rfl)))) (mvT hZ (hw _ (List.mem_of_getElem? (i := 24) rfl))) (mvT hZ (hw _ (List.mem_of_getElem? (i := 23) rfl))) (by decide) (backOf (W := 0) (rmG0 l Z a0 hw [] b1 (0 : Int32) p2 p3 p1 T27.heap n0 Z27 (I27) (rfl)) hZ (hw _ (List.mem_of_getElem? (i := 25) rfl)) (hw _ (List.mem_of_getElem? (i := 2) rfl)) (by decide) (by decide)) q29a q29c (g := (mkF m 128 #[.val (.int p1), .val (.int p2), .val (.int p3), .val (.int p4), .val (.ref b1), .val (.int (2 : Int32)), .val (.int (0 : Int32)), .val (.int (1 : Int32)), .val (.int (1 : Int32))] [(.int (0 : Int32)), (.ref b1)])) rfl (by rw [hml]; rfl) (Steps.refl _) (argsL := [(.int (0 : Int32))]) (rest := []) (lenOf pd_1 rfl) rfl (by show 2 * 0 + _ ≤ _; exact Nat.le_of_eq rfl) (hb hby at_128) (fun _ _ => ⟨rfl, e28, (by decide : 8 + 0 ≤ _), (by decide : 57 + 0 ≤ _)⟩)
    dsimp only [Pt.U, Pt.locs, Pt.cells, Pt.slots] at X29 l29 y29 z29 st29 hQ29
    subst l29 y29 z29
    obtain ⟨rfl, N29q, e29⟩ := hQ29
    have N29 := Fr.app N28 N29q
    refine Goes.tr (U' := T29.setTop (mkF m 131 #[.val (.int p1), .val (.int p2), .val (.int p3), .val (.int p4), .val (.ref b1), .val (.int (2 : Int32)), .val (.int (0 : Int32)), .val (.int (1 : Int32)), .val (.int (1 : Int32))] [(.int p2)])) st29 ?_
    refine Goes.st (U' := T29.setTop (mkF m 132 #[.val (.int p1), .val (.int p2), .val (.int p3), .val (.int p4), .val (.ref b1), .val (.int (2 : Int32)), .val (.int (0 : Int32)), .val (.int (1 : Int32)), .val (.int (1 : Int32))] [(.int p2), (.int p2)])) (fun t k => XS.iloadN X29.here hx rfl (hb hby at_131) rfl k) ?_
    refine Goes.st (U' := T29.setTop (mkF m 135 #[.val (.int p1), .val (.int p2), .val (.int p3), .val (.int p4), .val (.ref b1), .val (.int (2 : Int32)), .val (.int (0 : Int32)), .val (.int (1 : Int32)), .val (.int (1 : Int32))] [])) (fun t k => XS.icmpNo X29.here hx rfl (hb hby at_132) rfl (teq (rfl : p2 = p2)).2 k) ?_
    refine Goes.st (U' := T29.setTop (mkF m 137 #[.val (.int p1), .val (.int p2), .val (.int p3), .val (.int p4), .val (.ref b1), .val (.int (2 : Int32)), .val (.int (0 : Int32)), .val (.int (1 : Int32)), .val (.int (1 : Int32))] [(.ref b1)])) (fun t k => XS.aload X29.here hx rfl (hb hby at_135) rfl rfl k) ?_
    refine Goes.st (U' := T29.setTop (mkF m 139 #[.val (.int p1), .val (.int p2), .val (.int p3), .val (.int p4), .val (.ref b1), .val (.int (2 : Int32)), .val (.int (0 : Int32)), .val (.int (1 : Int32)), .val (.int (1 : Int32))] [(.int (1 : Int32)), (.ref b1)])) (fun t k => XS.iload X29.here hx rfl (hb hby at_137) rfl k) ?_
    obtain ⟨cq30, kq30, q30a, q30b, q30c⟩ := isOf hZ e29 (PI_exa I27)
    obtain ⟨_, _, ⟨T30, L30, k30, n30⟩, -, X30, ⟨Lc30, hQ30, l30, y30, z30⟩, st30⟩ := X29.virtualBack hx (y := (⟨"com/example/chaise/chaise/core/PackedInts", "get", "(I)I"⟩ : MethodName)) (z := (⟨"com/example/chaise/chaise/core/PackedInts", "get", "(I)I"⟩ : MethodName)) hown (mvT hZ (hw _ (List.mem_of_getElem? (i := 21) rfl))) (mvT hZ (hw _ (List.mem_of_getElem? (i := 22) rfl))) (notFace_of_selects (args := #[]) (mvT hZ (hw _ (List.mem_of_getElem? (i := 24) rfl)))) (mvT hZ (hw _ (List.mem_of_getElem? (i := 24) rfl))) (mvT hZ (hw _ (List.mem_of_getElem? (i := 23) rfl))) (by decide) (backOf (W := 0) (rmG1 l Z a0 hw [] b1 (1 : Int32) p2 p3 p1 T27.heap n0 Z27 (I27) (rfl)) hZ (hw _ (List.mem_of_getElem? (i := 25) rfl)) (hw _ (List.mem_of_getElem? (i := 2) rfl)) (by decide) (by decide)) q30a q30c (g := (mkF m 139 #[.val (.int p1), .val (.int p2), .val (.int p3), .val (.int p4), .val (.ref b1), .val (.int (2 : Int32)), .val (.int (0 : Int32)), .val (.int (1 : Int32)), .val (.int (1 : Int32))] [(.int (1 : Int32)), (.ref b1)])) rfl (by rw [hml]; rfl) (Steps.refl _) (argsL := [(.int (1 : Int32))]) (rest := []) (lenOf pd_1 rfl) rfl (by show 2 * 0 + _ ≤ _; exact Nat.le_of_eq rfl) (hb hby at_139) (fun _ _ => ⟨rfl, e29, (by decide : 8 + 0 ≤ _), (by decide : 57 + 0 ≤ _)⟩)
    dsimp only [Pt.U, Pt.locs, Pt.cells, Pt.slots] at X30 l30 y30 z30 st30 hQ30
    subst l30 y30 z30
    obtain ⟨rfl, N30q, e30⟩ := hQ30
    have N30 := Fr.app N29 N30q
    refine Goes.tr (U' := T30.setTop (mkF m 142 #[.val (.int p1), .val (.int p2), .val (.int p3), .val (.int p4), .val (.ref b1), .val (.int (2 : Int32)), .val (.int (0 : Int32)), .val (.int (1 : Int32)), .val (.int (1 : Int32))] [(.int p3)])) st30 ?_
    refine Goes.st (U' := T30.setTop (mkF m 143 #[.val (.int p1), .val (.int p2), .val (.int p3), .val (.int p4), .val (.ref b1), .val (.int (2 : Int32)), .val (.int (0 : Int32)), .val (.int (1 : Int32)), .val (.int (1 : Int32))] [(.int p3), (.int p3)])) (fun t k => XS.iloadN X30.here hx rfl (hb hby at_142) rfl k) ?_
    refine Goes.st (U' := T30.setTop (mkF m 146 #[.val (.int p1), .val (.int p2), .val (.int p3), .val (.int p4), .val (.ref b1), .val (.int (2 : Int32)), .val (.int (0 : Int32)), .val (.int (1 : Int32)), .val (.int (1 : Int32))] [])) (fun t k => XS.icmpNo X30.here hx rfl (hb hby at_143) rfl (teq (rfl : p3 = p3)).2 k) ?_
    refine Goes.st (U' := T30.setTop (mkF m 147 #[.val (.int p1), .val (.int p2), .val (.int p3), .val (.int p4), .val (.ref b1), .val (.int (2 : Int32)), .val (.int (0 : Int32)), .val (.int (1 : Int32)), .val (.int (1 : Int32))] [(.int (1 : Int32))])) (fun t k => XS.iconst X30.here hx rfl (hb hby at_146) k) ?_
    refine Goes.st (U' := T30.setTop (mkF m 151 #[.val (.int p1), .val (.int p2), .val (.int p3), .val (.int p4), .val (.ref b1), .val (.int (2 : Int32)), .val (.int (0 : Int32)), .val (.int (1 : Int32)), .val (.int (1 : Int32))] [(.int (1 : Int32))])) (fun t k => XS.goto X30.here hx rfl (pc0 := 147) (pc' := 151) rfl (hb hby at_147) (by decide) (by decide) k) ?_
    refine Goes.st (U' := T30.setTop (mkF m 153 #[.val (.int p1), .val (.int p2), .val (.int p3), .val (.int p4), .val (.ref b1), .val (.int (2 : Int32)), .val (.int (0 : Int32)), .val (.int (1 : Int32)), .val (.int (1 : Int32))] [])) (fun t k => XS.istore X30.here hx rfl (hb hby at_151) rfl (l' := #[.val (.int p1), .val (.int p2), .val (.int p3), .val (.int p4), .val (.ref b1), .val (.int (2 : Int32)), .val (.int (0 : Int32)), .val (.int (1 : Int32)), .val (.int (1 : Int32))]) rfl k) ?_
    refine Goes.st (U' := T30.setTop (mkF m 155 #[.val (.int p1), .val (.int p2), .val (.int p3), .val (.int p4), .val (.ref b1), .val (.int (2 : Int32)), .val (.int (0 : Int32)), .val (.int (1 : Int32)), .val (.int (1 : Int32))] [(.int (1 : Int32))])) (fun t k => XS.iload X30.here hx rfl (hb hby at_153) rfl k) ?_
    refine Goes.retZ X30 hx (BodyLoose.notSynchronized Bd) Bd.returns (hb hby at_155) rfl (by decide) (by decide) ?_
    show Q0 Z p1 p2 p3 p4 h0 n0 _ T30.heap _
    rw [e30]
    exact ⟨rfl, N30⟩
set_option maxRecDepth 65536 in
set_option maxHeartbeats 40000000 in
theorem comes_1 {Post : Tables → Env → Array Value → State → Outcome → State → Prop} (hpost : ∀ tb e args s v u, (limb_1_1.after args s (.returned v) u = true ∧ limb_1_2.after args s (.returned v) u = true ∧ True) → FrameEnd s (.returned v) u (Jvm.fieldLocs frame_1_writes args s ++ Jvm.arrayLocs frame_1_arrays args s ++ Jvm.staticLocs frame_1_statics s) 16 128 → Post tb e args s (.returned v) u) :
    ArmFor flags0 classFile x code maxLocals ret World_1 tables_1 room_1 Calls_1 rest_1 Pre_1 Post := by
  intro l hfl _ _ p e ha hc hk s m args below hf hA hF happ hP
  obtain ⟨hcalls, hrest, hpre⟩ := hP
  obtain ⟨-, -, -, hnamed, -, -, -, hat⟩ := (Spec.applies_iff hf).mp happ
  obtain ⟨hg, hn⟩ := and_e (Cond.before_iff.mp (show (Jvm.Cond.and given_1 narrow_1).before args s = true from hpre))
  obtain ⟨gg1, gg2⟩ := and_e hg
  obtain ⟨gg3, gg4⟩ := and_e gg2
  obtain ⟨gg5, gg6⟩ := and_e gg4
  obtain ⟨gg7, gg8⟩ := and_e gg6
  obtain ⟨w0, w1, w2, w3, rfl⟩ : ∃ w0 w1 w2 w3 : Value, args = #[w0, w1, w2, w3] := by
    have hs : args.size = 4 := by simpa [Cond.value, given_1] using gg1
    obtain ⟨L⟩ := args
    match L, hs with
    | [w0, w1, w2, w3], _ => exact ⟨w0, w1, w2, w3, rfl⟩
  have hw := fun d (hd : d ∈ tables_1) => atoms_spec (ws := Jvm.Cond.code x code maxLocals ret :: tables_1) hat d (List.mem_cons_of_mem _ hd)
  obtain ⟨i0, ei0⟩ := is_v gg3
  obtain rfl : w0 = (.int i0) := Option.some.inj ei0
  obtain ⟨i1, ei1⟩ := is_v gg5
  obtain rfl : w1 = (.int i1) := Option.some.inj ei1
  obtain ⟨i2, ei2⟩ := is_v gg7
  obtain rfl : w2 = (.int i2) := Option.some.inj ei2
  obtain ⟨i3, ei3⟩ := is_v gg8
  obtain rfl : w3 = (.int i3) := Option.some.inj ei3
  obtain ⟨n, o, h1, h2, h3, v, L, rfl, hQ, hq⟩ := rm0 l s _ hw tables_1 i0 i1 i2 i3 s.heap s.heap.size (Nat.le_refl _) p e ha hc hk s m _ below hf ((Spec.applies_iff_loose hf).mp happ).1 ⟨rfl, State.Warmed39.refl s, rfl⟩ trivial
  obtain ⟨rfl, N⟩ := hQ
  exact ⟨n, _, h1, h2, h3, hpost _ _ _ _ _ _ ⟨Cond.after_iff.mpr rfl, Cond.after_iff.mpr (eq_i res_at (Term.int_eval (1)) rfl), trivial⟩ ⟨hq.1, hq.2.1, (hq.2.2.sift fun y hy => Or.inr (N y hy)).mono (by decide) (by decide)⟩⟩
theorem main_1_1 : Claimed_1_1 := comes_1 fun _ _ _ _ _ _ h hF => ⟨h.1, hF⟩
theorem main_1_2 : Claimed_1_2 := comes_1 fun _ _ _ _ _ _ h hF => ⟨h.2.1, hF⟩
end Jvm.Pilot.@@N@@
namespace Jvm.Pilot.@@N@@
open Jvm Jvm.ClassFile Sem Op Lib Jvm.Free Jvm.Stand Jvm.Pilot.@@N@@.Jvm.D
/-! MADE BY PROGRAM (witnessworld.py) out of the Statement's table words and the real class files: 9 classes; the members and pool entries that the words name. The judged class is class 1, her method 1. -/
namespace start1
open Jvm.ClassFile
def u (s : String) : CpInfo := .utf8 (stringToUtf16 s)
/-- a pool by its gaps: so many unusable entries, then the entry; so many at the end -/
def gap : Nat → List CpInfo → List CpInfo
  | 0, r => r
  | n + 1, r => .unusable :: gap n r
def poolList (es : List (Nat × CpInfo)) (last : Nat) : List CpInfo := es.foldr (fun e r => gap e.1 (e.2 :: r)) (gap last [])
def pool (es : List (Nat × CpInfo)) (last : Nat) : Array CpInfo := ⟨poolList es last⟩
def fileOf (pool : Array CpInfo) (this : Nat) (attrs : Array Attribute := #[]) (ms : Array MethodInfo := #[]) (fl : Nat := 33) (sup : Nat := 0) (ifs : Array Nat := #[]) (fds : Array FieldInfo := #[]) : ClassFile where
  minorVersion := 0
  majorVersion := 65
  constantPool := pool
  accessFlags := fl
  thisClass := this
  superClass := sup
  interfaces := ifs
  fields := fds
  methods := ms
  attributes := attrs
def plain (name : String) (sup : Option ClassId) : Class where
  name := name
  kind := .ordinary
  loader := none
  accessFlags := 33
  super := sup
  interfaces := #[]
  cf := none
  fields := #[]
  methods := #[]
  instanceTypes := #[]
  staticTypes := #[]
  resolved := #[]
  callSites := []
  init := .initialized
  statics := none
  mirror := none

def pool0 : Array CpInfo := pool [(5, u "<init>"), (0, u "()V"), (1, .class_ 10), (1, u "java/lang/Object")] 113

def k0c0 : Code := { maxStack := 0, maxLocals := 1, code := object_method_1_code, exceptionTable := #[], attributes := #[] }
def k0m0 : Method := { name := "<init>", desc := "()V", sig := { parameters := [], returnType := none }, accessFlags := 1, code := some k0c0 }
/-- java/lang/Object -/
def k0 : Class := { plain "java/lang/Object" none with
  accessFlags := 33
  interfaces := #[]
  cf := some (fileOf pool0 8 #[] #[{ accessFlags := 1, nameIndex := 5, descriptorIndex := 6, attributes := #[] }] 33 0 #[] #[])
  fields := #[]
  methods := #[k0m0]
  instanceTypes := #[]
  staticTypes := #[]
  resolved := Array.replicate 124 none
  statics := none }

def pool1 : Array CpInfo := pool [(2, .class_ 4), (1, u "java/lang/Object"), (0, u "<init>"), (0, u "()V"), (0, .class_ 8), (0, u "com/example/chaise/chaise/core/PackedInts"), (0, .methodref 7 10), (0, .nameAndType 5 11), (0, u "(I)V"), (0, .integer 2147483647), (0, .methodref 7 14), (0, .nameAndType 15 16), (0, u "get"), (0, u "(I)I"), (0, .methodref 7 18), (0, .nameAndType 19 20), (0, u "set"), (0, u "(II)V"), (0, .class_ 22), (0, u "com/example/chaise/chaise/core/PackedIntsGetPinLaw"), (2, u "law"), (0, u "(IIII)Z")] 3

def k1m0 : Method := { name := "<init>", desc := "()V", sig := { parameters := [], returnType := none }, accessFlags := 1, code := none }
def k1c1 : Code := { maxStack := 3, maxLocals := 9, code := code, exceptionTable := #[], attributes := #[] }
def k1m1 : Method := { name := "law", desc := "(IIII)Z", sig := { parameters := [.int, .int, .int, .int], returnType := some .boolean }, accessFlags := 9, code := some k1c1 }
/-- com/example/chaise/chaise/core/PackedIntsGetPinLaw -/
def k1 : Class := { plain "com/example/chaise/chaise/core/PackedIntsGetPinLaw" (some 0) with
  accessFlags := 49
  interfaces := #[]
  cf := some (fileOf pool1 21 #[] #[{ accessFlags := 1, nameIndex := 5, descriptorIndex := 6, attributes := #[] }, { accessFlags := 9, nameIndex := 25, descriptorIndex := 26, attributes := #[] }] 49 2 #[] #[])
  fields := #[]
  methods := #[k1m0, k1m1]
  instanceTypes := #[]
  staticTypes := #[]
  resolved := Array.replicate 30 none
  statics := none }

def pool2 : Array CpInfo := pool [(3, .class_ 4), (0, u "com/example/chaise/chaise/core/PackedInts"), (0, .methodref 3 6), (0, .nameAndType 7 8), (0, u "<init>"), (0, u "(II)V"), (0, .methodref 10 11), (0, .class_ 12), (0, .nameAndType 7 13), (0, u "java/lang/Object"), (0, u "()V"), (9, .long 2147483639), (7, .fieldref 3 32), (0, .nameAndType 33 34), (0, u "length"), (0, u "I"), (0, .fieldref 3 36), (0, .nameAndType 37 38), (0, u "bytes"), (0, u "[B"), (0, .fieldref 3 40), (0, .nameAndType 41 34), (0, u "width"), (0, .methodref 3 43), (0, .nameAndType 44 45), (0, u "fits"), (0, u "(I)Z"), (0, .methodref 3 47), (0, .nameAndType 48 8), (0, u "set"), (12, .methodref 3 62), (0, .nameAndType 63 13), (0, u "widen"), (0, .methodref 3 65), (0, .nameAndType 66 67), (0, u "get"), (0, u "(I)I"), (0, .integer 4286578688), (0, .integer 8388607), (0, u "NARROW"), (2, u "WIDE"), (1, u "LOWEST_NARROW"), (0, u "HIGHEST_NARROW"), (0, u "MAX_BYTES"), (0, u "J"), (0, u "(I)V")] 30

def k2c0 : Code := { maxStack := 3, maxLocals := 2, code := prog_81_method_1_code, exceptionTable := #[], attributes := #[] }
def k2m0 : Method := { name := "<init>", desc := "(I)V", sig := { parameters := [.int], returnType := none }, accessFlags := 0, code := some k2c0 }
def k2c1 : Code := { maxStack := 4, maxLocals := 5, code := prog_81_method_2_code, exceptionTable := #[], attributes := #[] }
def k2m1 : Method := { name := "<init>", desc := "(II)V", sig := { parameters := [.int, .int], returnType := none }, accessFlags := 2, code := some k2c1 }
def k2c2 : Code := { maxStack := 4, maxLocals := 4, code := prog_81_method_5_code, exceptionTable := #[], attributes := #[] }
def k2m2 : Method := { name := "get", desc := "(I)I", sig := { parameters := [.int], returnType := some .int }, accessFlags := 0, code := some k2c2 }
def k2c3 : Code := { maxStack := 4, maxLocals := 4, code := prog_81_method_6_code, exceptionTable := #[], attributes := #[] }
def k2m3 : Method := { name := "set", desc := "(II)V", sig := { parameters := [.int, .int], returnType := none }, accessFlags := 0, code := some k2c3 }
def k2c4 : Code := { maxStack := 4, maxLocals := 3, code := prog_81_method_10_code, exceptionTable := #[], attributes := #[] }
def k2m4 : Method := { name := "widen", desc := "()V", sig := { parameters := [], returnType := none }, accessFlags := 2, code := some k2c4 }
def k2c5 : Code := { maxStack := 2, maxLocals := 1, code := prog_81_method_11_code, exceptionTable := #[], attributes := #[] }
def k2m5 : Method := { name := "fits", desc := "(I)Z", sig := { parameters := [.int], returnType := some .boolean }, accessFlags := 10, code := some k2c5 }
/-- com/example/chaise/chaise/core/PackedInts -/
def k2 : Class := { plain "com/example/chaise/chaise/core/PackedInts" (some 0) with
  accessFlags := 32
  interfaces := #[]
  cf := some (fileOf pool2 3 #[] #[{ accessFlags := 0, nameIndex := 7, descriptorIndex := 79, attributes := #[] }, { accessFlags := 2, nameIndex := 7, descriptorIndex := 8, attributes := #[] }, { accessFlags := 0, nameIndex := 66, descriptorIndex := 67, attributes := #[] }, { accessFlags := 0, nameIndex := 48, descriptorIndex := 8, attributes := #[] }, { accessFlags := 2, nameIndex := 63, descriptorIndex := 13, attributes := #[] }, { accessFlags := 10, nameIndex := 44, descriptorIndex := 45, attributes := #[] }] 32 10 #[] #[{ accessFlags := 26, nameIndex := 70, descriptorIndex := 34, attributes := #[] }, { accessFlags := 26, nameIndex := 73, descriptorIndex := 34, attributes := #[] }, { accessFlags := 26, nameIndex := 75, descriptorIndex := 34, attributes := #[] }, { accessFlags := 26, nameIndex := 76, descriptorIndex := 34, attributes := #[] }, { accessFlags := 26, nameIndex := 77, descriptorIndex := 78, attributes := #[] }, { accessFlags := 18, nameIndex := 33, descriptorIndex := 34, attributes := #[] }, { accessFlags := 2, nameIndex := 37, descriptorIndex := 38, attributes := #[] }, { accessFlags := 2, nameIndex := 41, descriptorIndex := 34, attributes := #[] }])
  fields := #[{ name := "NARROW", type := .int, accessFlags := 26, slot := 0, constantValue := 0 }, { name := "WIDE", type := .int, accessFlags := 26, slot := 1, constantValue := 0 }, { name := "LOWEST_NARROW", type := .int, accessFlags := 26, slot := 2, constantValue := 0 }, { name := "HIGHEST_NARROW", type := .int, accessFlags := 26, slot := 3, constantValue := 0 }, { name := "MAX_BYTES", type := .long, accessFlags := 26, slot := 4, constantValue := 0 }, { name := "length", type := .int, accessFlags := 18, slot := 0, constantValue := 0 }, { name := "bytes", type := (.array .byte), accessFlags := 2, slot := 1, constantValue := 0 }, { name := "width", type := .int, accessFlags := 2, slot := 2, constantValue := 0 }]
  methods := #[k2m0, k2m1, k2m2, k2m3, k2m4, k2m5]
  instanceTypes := #[.int, (.array .byte), .int]
  staticTypes := #[.int, .int, .int, .int, .long]
  resolved := Array.replicate 110 none
  statics := none }

def pool3 : Array CpInfo := pool [(1, u "java/lang/Cloneable"), (0, .class_ 1), (0, u "java/lang/Object"), (0, .class_ 3)] 3

/-- java/lang/Cloneable -/
def k3 : Class := { plain "java/lang/Cloneable" (some 0) with
  accessFlags := 1537
  interfaces := #[]
  cf := some (fileOf pool3 2 #[] #[] 1537 4 #[] #[])
  fields := #[]
  methods := #[]
  instanceTypes := #[]
  staticTypes := #[]
  resolved := Array.replicate 8 none
  statics := none }

def pool4 : Array CpInfo := pool [(1, u "java/io/Serializable"), (0, .class_ 1), (0, u "java/lang/Object"), (0, .class_ 3)] 3

/-- java/io/Serializable -/
def k4 : Class := { plain "java/io/Serializable" (some 0) with
  accessFlags := 1537
  interfaces := #[]
  cf := some (fileOf pool4 2 #[] #[] 1537 4 #[] #[])
  fields := #[]
  methods := #[]
  instanceTypes := #[]
  staticTypes := #[]
  resolved := Array.replicate 8 none
  statics := none }

/-- the primitive byte -/
def k5 : Class := { plain "byte" none with kind := .primitive 'B', accessFlags := 0x411 }
/-- [B -/
def k6 : Class := { plain "[B" (some 0) with kind := .array 5 .byte, interfaces := #[3, 4], accessFlags := 1041 }

/-- the primitive int -/
def k7 : Class := { plain "int" none with kind := .primitive 'I', accessFlags := 0x411 }
/-- [I -/
def k8 : Class := { plain "[I" (some 0) with kind := .array 7 .int, interfaces := #[3, 4], accessFlags := 1041 }

def heap : Heap := #[]
def classes : Array Class := #[k0, k1, k2, k3, k4, k5, k6, k7, k8]
def interned : List (Array UInt16 × Addr) := []
def slotsUsed : Nat := 0
def theMethod : MethodId := ⟨1, 1⟩
def args0 : Array Value := #[.int 1, .int 2, .int 3, .int 4]
def aboutOver (below : List Frame) : State where
  vm := { classes := classes, interned := interned.toArray }
  heap := heap
  slotsUsed := slotsUsed
  threads := #[{ frames := .invoking theMethod args0 :: below }]
def below0 : List Frame := [.native { method := ⟨0, 0⟩, args := #[] }]
def about1 : State := aboutOver below0
def p0 : Program := .bare "" "" ""
def e0 : Env := launch0.env 0 0 0
theorem w_frames : about1.frames = Frame.invoking theMethod args0 :: below0 := rfl
set_option maxRecDepth 65536 in
theorem w_args : argsFit about1.vm theMethod args0 = true := by decide +kernel
set_option maxRecDepth 65536 in
theorem w_heap : heapFits about1 = true := by decide +kernel
set_option maxRecDepth 65536 in
theorem w_runnable : about1.curStatus? = some .runnable := by decide +kernel
set_option maxRecDepth 65536 in
theorem w_alone : about1.alone = true := by decide +kernel
set_option maxRecDepth 65536 in
theorem w_named : about1.methodNamed? x = some theMethod := by decide +kernel
set_option maxRecDepth 65536 in
theorem w_hears : about1.hears theMethod below0 = true := by decide +kernel
set_option maxRecDepth 65536 in
theorem w_ripe : about1.ripe theMethod args0 below0 = true := by decide +kernel
theorem w_running : about1.status = .running := rfl
set_option maxRecDepth 65536 in
theorem w_room : about1.hasRoom e0.platform room_1 = true :=
  launch0.hasRoom_least _ room_1 (by decide +kernel) (by decide +kernel) (by decide +kernel) (by decide +kernel) (by decide +kernel) (by decide +kernel)
theorem allAtoms_all (ts : List Jvm.Cond) (a : Array Jvm.Value) (st : Jvm.State) : (allAtoms ts).before a st = ts.all (fun c => c.before a st) := by
  induction ts with
  | nil => rfl
  | cons c t ih =>
    show (Jvm.Cond.and c (allAtoms t)).before a st = _
    rw [Jvm.Cond.before_and, ih, List.all_cons]
def words1 : List Jvm.Cond := Jvm.Cond.code x code maxLocals ret :: tables_1
/-- a 'code' word, met by the world's own term for the bytes: nothing is compared byte by byte -/
theorem code_word {y : MethodName} {bytes : ByteArray} {mx : Nat} {rt : Option FieldType} {a : Array Value} {s : State} {m : MethodId} {meth : Method} {c : Code} (h1 : s.methodNamed? y = some m) (h2 : s.vm.method? m = some meth) (h3 : meth.code = some c) (h4 : c.code = bytes)
    (h5 : (c.maxLocals == mx && c.exceptionTable.isEmpty && decide (c.maxStack ≤ mostOperands) && decide (meth.sig.returnType = rt) && !meth.locks && decide (parseMethodDescriptor y.desc = some meth.sig)) = true) : (Jvm.Cond.code y bytes mx rt).before a s = true := by
  simp only [Bool.and_eq_true, beq_iff_eq, Bool.not_eq_true', decide_eq_true_eq] at h5
  obtain ⟨⟨⟨⟨⟨g1, g2⟩, g3⟩, g4⟩, g5⟩, g6⟩ := h5
  simp [Cond.before, Cond.holds, Cond.value, h1, h2, h3, h4, g1, g2, g3, g4, g5, g6]
def isCode : Jvm.Cond → Bool
  | .code _ _ _ _ => true
  | _ => false
theorem all_split {L : List Jvm.Cond} {P : Jvm.Cond → Bool} (h1 : L.all (fun c => isCode c || P c) = true) (h2 : ∀ c ∈ L.filter isCode, P c = true) : L.all P = true := by
  refine List.all_eq_true.mpr fun c hc => ?_
  have h := List.all_eq_true.mp h1 c hc
  rcases Bool.eq_false_or_eq_true (isCode c) with hi | hi
  · exact h2 c (List.mem_filter.mpr ⟨hc, hi⟩)
  · simpa [hi] using h
set_option maxRecDepth 65536 in
theorem w_c0 : (Jvm.Cond.code x code maxLocals ret).before args0 about1 = true := code_word (m := ⟨1, 1⟩) (meth := k1m1) (c := k1c1) (by decide +kernel) rfl rfl rfl (by decide +kernel)
set_option maxRecDepth 65536 in
theorem w_c1 : (Jvm.Cond.code ({ cls := "com/example/chaise/chaise/core/PackedInts", name := "<init>", desc := "(I)V" } : Jvm.MethodName) prog_81_method_1_code (2 : Nat) (Option.none : Option Jvm.ClassFile.FieldType)).before args0 about1 = true := code_word (m := ⟨2, 0⟩) (meth := k2m0) (c := k2c0) (by decide +kernel) rfl rfl rfl (by decide +kernel)
set_option maxRecDepth 65536 in
theorem w_c2 : (Jvm.Cond.code ({ cls := "com/example/chaise/chaise/core/PackedInts", name := "<init>", desc := "(II)V" } : Jvm.MethodName) prog_81_method_2_code (5 : Nat) (Option.none : Option Jvm.ClassFile.FieldType)).before args0 about1 = true := code_word (m := ⟨2, 1⟩) (meth := k2m1) (c := k2c1) (by decide +kernel) rfl rfl rfl (by decide +kernel)
set_option maxRecDepth 65536 in
theorem w_c3 : (Jvm.Cond.code ({ cls := "java/lang/Object", name := "<init>", desc := "()V" } : Jvm.MethodName) object_method_1_code (1 : Nat) (Option.none : Option Jvm.ClassFile.FieldType)).before args0 about1 = true := code_word (m := ⟨0, 0⟩) (meth := k0m0) (c := k0c0) (by decide +kernel) rfl rfl rfl (by decide +kernel)
set_option maxRecDepth 65536 in
theorem w_c4 : (Jvm.Cond.code ({ cls := "com/example/chaise/chaise/core/PackedInts", name := "get", desc := "(I)I" } : Jvm.MethodName) prog_81_method_5_code (4 : Nat) (Option.some Jvm.ClassFile.FieldType.int)).before args0 about1 = true := code_word (m := ⟨2, 2⟩) (meth := k2m2) (c := k2c2) (by decide +kernel) rfl rfl rfl (by decide +kernel)
set_option maxRecDepth 65536 in
theorem w_c5 : (Jvm.Cond.code ({ cls := "com/example/chaise/chaise/core/PackedInts", name := "set", desc := "(II)V" } : Jvm.MethodName) prog_81_method_6_code (4 : Nat) (Option.none : Option Jvm.ClassFile.FieldType)).before args0 about1 = true := code_word (m := ⟨2, 3⟩) (meth := k2m3) (c := k2c3) (by decide +kernel) rfl rfl rfl (by decide +kernel)
set_option maxRecDepth 65536 in
theorem w_c6 : (Jvm.Cond.code ({ cls := "com/example/chaise/chaise/core/PackedInts", name := "fits", desc := "(I)Z" } : Jvm.MethodName) prog_81_method_11_code (1 : Nat) (Option.some Jvm.ClassFile.FieldType.boolean)).before args0 about1 = true := code_word (m := ⟨2, 5⟩) (meth := k2m5) (c := k2c5) (by decide +kernel) rfl rfl rfl (by decide +kernel)
set_option maxRecDepth 65536 in
theorem w_c7 : (Jvm.Cond.code ({ cls := "com/example/chaise/chaise/core/PackedInts", name := "widen", desc := "()V" } : Jvm.MethodName) prog_81_method_10_code (3 : Nat) (Option.none : Option Jvm.ClassFile.FieldType)).before args0 about1 = true := code_word (m := ⟨2, 4⟩) (meth := k2m4) (c := k2c4) (by decide +kernel) rfl rfl rfl (by decide +kernel)
def codes1 : List Jvm.Cond := [Jvm.Cond.code x code maxLocals ret, Jvm.Cond.code ({ cls := "com/example/chaise/chaise/core/PackedInts", name := "<init>", desc := "(I)V" } : Jvm.MethodName) prog_81_method_1_code (2 : Nat) (Option.none : Option Jvm.ClassFile.FieldType), Jvm.Cond.code ({ cls := "com/example/chaise/chaise/core/PackedInts", name := "<init>", desc := "(II)V" } : Jvm.MethodName) prog_81_method_2_code (5 : Nat) (Option.none : Option Jvm.ClassFile.FieldType), Jvm.Cond.code ({ cls := "java/lang/Object", name := "<init>", desc := "()V" } : Jvm.MethodName) object_method_1_code (1 : Nat) (Option.none : Option Jvm.ClassFile.FieldType), Jvm.Cond.code ({ cls := "com/example/chaise/chaise/core/PackedInts", name := "get", desc := "(I)I" } : Jvm.MethodName) prog_81_method_5_code (4 : Nat) (Option.some Jvm.ClassFile.FieldType.int), Jvm.Cond.code ({ cls := "com/example/chaise/chaise/core/PackedInts", name := "set", desc := "(II)V" } : Jvm.MethodName) prog_81_method_6_code (4 : Nat) (Option.none : Option Jvm.ClassFile.FieldType), Jvm.Cond.code ({ cls := "com/example/chaise/chaise/core/PackedInts", name := "fits", desc := "(I)Z" } : Jvm.MethodName) prog_81_method_11_code (1 : Nat) (Option.some Jvm.ClassFile.FieldType.boolean), Jvm.Cond.code ({ cls := "com/example/chaise/chaise/core/PackedInts", name := "widen", desc := "()V" } : Jvm.MethodName) prog_81_method_10_code (3 : Nat) (Option.none : Option Jvm.ClassFile.FieldType)]
set_option maxRecDepth 65536 in
theorem codes_eq : words1.filter isCode = codes1 := rfl
theorem w_codes : ∀ c ∈ words1.filter isCode, c.before args0 about1 = true := by
  rw [codes_eq]
  intro c hc
  simp only [codes1, List.mem_cons, List.not_mem_nil, or_false] at hc
  rcases hc with rfl | rfl | rfl | rfl | rfl | rfl | rfl | rfl
  · exact w_c0
  · exact w_c1
  · exact w_c2
  · exact w_c3
  · exact w_c4
  · exact w_c5
  · exact w_c6
  · exact w_c7
set_option maxRecDepth 65536 in
theorem w_t1 : (words1.take 24).all (fun c => isCode c || c.before args0 about1) = true := by decide +kernel
set_option maxRecDepth 65536 in
theorem w_t2 : (words1.drop 24).all (fun c => isCode c || c.before args0 about1) = true := by decide +kernel
theorem w_tables : (allAtoms (Jvm.Cond.code x code maxLocals ret :: tables_1)).before args0 about1 = true := by
  rw [allAtoms_all]
  show words1.all (fun c => c.before args0 about1) = true
  refine all_split ?_ w_codes
  rw [← List.take_append_drop 24 words1, List.all_append, w_t1, w_t2]
  rfl
set_option maxRecDepth 65536 in
theorem w_case : (Jvm.Cond.and given_1 narrow_1).before args0 about1 = true := by decide +kernel
theorem w_applies : (headSpec (Jvm.Cond.code x code maxLocals ret :: tables_1) room_1).applies x e0.platform about1 = true :=
  (Spec.applies_iff w_frames).mpr ⟨w_running, w_runnable, w_alone, w_named, w_hears, w_ripe, w_room, w_tables⟩
theorem atStart : AtStart classFile x code maxLocals ret World_1 tables_1 room_1 Calls_1 rest_1 Pre_1 launch0 p0 e0 about1 theMethod args0 below0 :=
  ⟨lists_1, trivial, launch0.admits_env _ _ _, launch0.least_env, fairChoices_fair.cas, fairChoices_fair.clock, w_frames, w_args, w_heap, w_applies, trivial, trivial, w_case⟩
end start1
theorem witness_1 : WitnessClaimed_1 := ⟨start1.p0, start1.e0, start1.about1, start1.theMethod, start1.args0, start1.below0, start1.atStart⟩
end Jvm.Pilot.@@N@@
