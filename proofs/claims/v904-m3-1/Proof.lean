import JvmDerived
import JvmDerived.Pilot.@@N@@Statement
import JvmDerived.Pilot.@@N@@Code
set_option linter.unusedVariables false
set_option linter.unusedSimpArgs false
namespace Jvm.RoadKit
open Sem ClassFile Op Lib Jvm.Stand Jvm.Free Jvm.LawKit
section New
variable {p : Program} {l : Launch} {e : Env} {R : Room} {s : State} {m : MethodId} {args : Array Value} {below : List Frame} {meth : Method} {c : Code} {T : State} {locs : List Loc} {cells slots : Nat}
theorem retI (X : Stand p l e R s m args below meth c T locs cells slots) (hx : p.tables.exec = Jvm.exec) {pc : Nat} {Ls : Array Slot} {z : Int32} {rest : List Value} (hret : meth.sig.returnType = some .int) (hd : decode c.code pc = .ok (.ireturn, 1)) {fs : List Frame}
    (hl : ∀ (f : JFrame) (acts : List Action), f.method = m → f.locked = none → f.entered = [] → (doReturn e (T.setTop f) acts (some (.int z))).1 = T.setFrames fs) : Steps p.tables e below (T.setTop (mkF m pc Ls (.int z :: rest))) (T.setFrames fs) :=
  retOut X hx hret rfl (Or.inl ⟨rfl, Or.inl rfl, z, rfl⟩) hd hl
end New
end Jvm.RoadKit
namespace Jvm.Pilot.@@N@@
open Jvm Jvm.ClassFile Sem Op Lib Jvm.Free Jvm.Stand Jvm.LawKit Jvm.RoadKit Bundle Jvm.Pilot.@@N@@.Jvm.D
def IsCh (c : Int32) : Prop := ¬ c < 0 ∧ ¬ (65535 : Int32) < c
def ArF (Z : State) (h : Heap) (a : Addr) (ty : FieldType) (N : Nat) (F : Nat → Int32) : Prop := ∃ c : Cell, Arr Z h a c ty ∧ c.slots.size = N ∧ ∀ i, i < N → c.slots[i]? = some (.int (F i))
theorem ArF.lt {Z : State} {h : Heap} {a : Addr} {ty : FieldType} {N : Nat} {F : Nat → Int32} (A : ArF Z h a ty N F) : a < h.size := by obtain ⟨c, A, -⟩ := A; exact A.lt
theorem ArF.ext {Z : State} {h h' : Heap} {a : Addr} {ty : FieldType} {N : Nat} {F : Nat → Int32} (A : ArF Z h a ty N F) (E : Ext h h') : ArF Z h' a ty N F := by obtain ⟨c, A, r⟩ := A; exact ⟨c, A.ext E, r⟩
theorem ArF.other {Z : State} {h h' : Heap} {a b : Addr} {ty : FieldType} {N : Nat} {F : Nat → Int32} {sl : Nat} {v : Value} (A : ArF Z h b ty N F) (W : Wr h h' a sl v) (q : b ≠ a) : ArF Z h' b ty N F := by obtain ⟨c, A, r⟩ := A; exact ⟨c, A.other W q, r⟩
theorem ArF.keep {Z : State} {h h' : Heap} {a : Addr} {ty : FieldType} {N : Nat} {F : Nat → Int32} {ws : List Addr} (A : ArF Z h a ty N F) (K : Keep h h' ws) (q : a ∉ ws) : ArF Z h' a ty N F := by obtain ⟨c, A, r⟩ := A; exact ⟨c, ⟨K.2.1 a c A.1 q, A.2⟩, r⟩
theorem ArF.of_arv {Z : State} {h : Heap} {a : Addr} {k : ClassId} {ty : FieldType} {z : Int32} {vs : List Value} {dv : Value} {N : Nat} {F : Nat → Int32} (A : Arv Z h a k ty z vs dv) (hN : z.toNatClampNeg = N) (hF : ∀ i, i < N → vs.getD i dv = .int (F i)) : ArF Z h a ty N F := by
  obtain ⟨c, A, -, S, -, H, -⟩ := A
  exact ⟨c, A, S.trans hN, fun i hi => by rw [← hF i hi]; exact H i (by omega)⟩
theorem ArF.fn {Z : State} {h : Heap} {a : Addr} {ty : FieldType} {N : Nat} {F G : Nat → Int32} (A : ArF Z h a ty N F) (q : ∀ i, i < N → F i = G i) : ArF Z h a ty N G := by
  obtain ⟨c, A, S, H⟩ := A
  exact ⟨c, A, S, fun i hi => by rw [← q i hi]; exact H i hi⟩
theorem own_tn {i : Nat} (h : i ≤ 1000) : (Int32.ofNat i).toNatClampNeg = i := by
  have : (Int32.ofNat i).toInt = i := Int32.toInt_ofNat_of_lt (by omega)
  show (Int32.ofNat i).toInt.toNat = i
  omega
theorem own_ti {i : Nat} (h : i ≤ 1000) : (Int32.ofNat i).toInt = i := Int32.toInt_ofNat_of_lt (by omega)
theorem own_nn {i : Nat} (h : i ≤ 1000) : ¬ (Int32.ofNat i < 0) := by
  rw [Int32.lt_iff_toInt_lt, own_ti h]
  have : (0 : Int32).toInt = 0 := by decide
  omega
theorem own_lt {i j : Nat} (hi : i ≤ 1000) (hj : j ≤ 1000) : Int32.ofNat i < Int32.ofNat j ↔ i < j := by
  rw [Int32.lt_iff_toInt_lt, own_ti hi, own_ti hj]; omega
theorem own_addn (i n : Nat) : Int32.ofNat i + Int32.ofNat n = Int32.ofNat (i + n) := (Int32.ofNat_add i n).symm
theorem own_in {i N : Nat} {c : Cell} (hi : i < N) (hN : N ≤ 1000) (S : c.slots.size = N) : ¬ (Int32.ofNat i < 0 ∨ c.slots.size ≤ (Int32.ofNat i).toNatClampNeg) := by
  rw [own_tn (by omega)]
  intro q
  rcases q with q | q
  · exact own_nn (by omega) q
  · omega
theorem own_at {i N : Nat} {c : Cell} {F : Nat → Int32} (hi : i < N) (hN : N ≤ 1000) (H : ∀ i, i < N → c.slots[i]? = some (.int (F i))) : c.slots[(Int32.ofNat i).toNatClampNeg]? = some (.int (F i)) := by
  rw [own_tn (by omega)]; exact H i hi
theorem ArF.set {Z : State} {h h' : Heap} {a : Addr} {ty : FieldType} {N : Nat} {F : Nat → Int32} {c : Cell} {i : Nat} {x : Int32} (A : Arr Z h a c ty) (S : c.slots.size = N) (H : ∀ i, i < N → c.slots[i]? = some (.int (F i))) (hi : i < N) (hN : N ≤ 1000) (W : Wr h h' a (Int32.ofNat i).toNatClampNeg (.int x)) : ArF Z h' a ty N (fun t => if t = i then x else F t) := by
  rw [own_tn (by omega)] at W
  refine ⟨_, A.same W, by simp [Cell.setSlot, S], fun t ht => ?_⟩
  by_cases q : t = i
  · subst q; simp [Cell.setSlot, S, hi]
  · simp only [Cell.setSlot, if_neg q]
    rw [Array.getElem?_setIfInBounds_ne (fun z => q z.symm)]; exact H t ht
theorem own_shl {i : Nat} (h : i ≤ 500) : Int32.ofNat i <<< ((1 : Int32) &&& 31) = Int32.ofNat (2 * i) := by
  apply Int32.toBitVec_inj.mp
  show (BitVec.ofNat 32 i) <<< 1 = BitVec.ofNat 32 (2 * i)
  apply BitVec.eq_of_toNat_eq
  rw [BitVec.toNat_shiftLeft, BitVec.toNat_ofNat, BitVec.toNat_ofNat, Nat.shiftLeft_eq]
  omega
theorem own_shr1 {i : Nat} (h : i ≤ 500) : Int32.ofNat (2 * i) >>> ((1 : Int32) &&& 31) = Int32.ofNat i := by
  apply Int32.toBitVec_inj.mp
  show (BitVec.ofNat 32 (2 * i)).sshiftRight 1 = BitVec.ofNat 32 i
  have m : (BitVec.ofNat 32 (2 * i)).msb = false := by
    rw [BitVec.msb_eq_decide, BitVec.toNat_ofNat]; simp; omega
  rw [BitVec.sshiftRight_eq_of_msb_false m]
  apply BitVec.eq_of_toNat_eq
  rw [BitVec.toNat_ushiftRight, BitVec.toNat_ofNat, BitVec.toNat_ofNat, Nat.shiftRight_eq_div_pow]
  omega
theorem own_shr0 (x : Int32) : x >>> ((0 : Int32) &&& 31) = x := by
  apply Int32.toBitVec_inj.mp
  show x.toBitVec.sshiftRight 0 = x.toBitVec
  simp
theorem own_255 (i : Nat) (hi : i < 32) : (255#32).getLsbD i = decide (i < 8) := by
  have : ∀ j : Fin 32, (255#32).getLsbD j = decide (j.val < 8) := by decide
  exact this ⟨i, hi⟩
theorem own_b (c : Int32) : (c.toInt8.toInt32 &&& (255 : Int32)) = c &&& (255 : Int32) := by
  apply Int32.toBitVec_inj.mp
  rw [Int32.toBitVec_and, Int32.toBitVec_and, Int8.toBitVec_toInt32, Int32.toBitVec_toInt8]
  show (BitVec.signExtend 32 (BitVec.signExtend 8 c.toBitVec)) &&& 255#32 = c.toBitVec &&& 255#32
  apply BitVec.eq_of_getLsbD_eq
  intro i hi
  simp only [BitVec.getLsbD_and, own_255 i hi, BitVec.getLsbD_signExtend]
  by_cases h : i < 8
  · simp [h, hi]
  · simp [h]
theorem own_hi (c : Int32) (h0 : ¬ c < 0) (h1 : ¬ (65535 : Int32) < c) : c.toBitVec.toNat < 2 ^ 16 ∧ c.toBitVec.msb = false := by
  have z1 : (65535 : Int32).toInt = 65535 := by decide
  have z0 : (0 : Int32).toInt = 0 := by decide
  rw [Int32.lt_iff_toInt_lt] at h0 h1
  have hb : ¬ c.toBitVec.msb = true := by
    intro q; exact h0 (by rw [z0]; have := BitVec.toInt_neg_of_msb_true q; exact this)
  have e : c.toInt = (c.toBitVec.toNat : Int) := by
    show c.toBitVec.toInt = _
    exact BitVec.toInt_eq_toNat_of_msb (by simpa using hb)
  exact ⟨by omega, by simpa using hb⟩
theorem own_nc (c : Int32) (h0 : ¬ c < 0) (h1 : ¬ (65535 : Int32) < c) : c.toUInt32.toUInt16.toUInt32.toInt32 = c := by
  have h := (own_hi c h0 h1).1
  apply Int32.toBitVec_inj.mp
  apply BitVec.eq_of_toNat_eq
  have q : c.toUInt32.toUInt16.toUInt32.toInt32.toBitVec.toNat = c.toUInt32.toUInt16.toUInt32.toNat := rfl
  rw [q, UInt16.toNat_toUInt32, UInt32.toNat_toUInt16]
  show c.toBitVec.toNat % 2 ^ 16 = _
  omega
theorem own_a255 (c : Int32) (h0 : ¬ c < 0) (h1 : ¬ (255 : Int32) < c) : c &&& (255 : Int32) = c := by
  have z1 : (255 : Int32).toInt = 255 := by decide
  have z2 : (65535 : Int32).toInt = 65535 := by decide
  have h := (own_hi c h0 (by rw [Int32.lt_iff_toInt_lt] at *; omega)).2
  rw [Int32.lt_iff_toInt_lt] at h1
  have e : c.toInt = (c.toBitVec.toNat : Int) := by
    show c.toBitVec.toInt = _
    exact BitVec.toInt_eq_toNat_of_msb h
  apply Int32.toBitVec_inj.mp
  apply BitVec.eq_of_toNat_eq
  show (c.toBitVec &&& 255#32).toNat = _
  rw [BitVec.toNat_and]
  show c.toBitVec.toNat &&& (2 ^ 8 - 1) = _
  rw [Nat.and_two_pow_sub_one_eq_mod]
  omega
theorem own_or (c : Int32) (h0 : ¬ c < 0) (h1 : ¬ (65535 : Int32) < c) : (((c >>> ((0 : Int32) &&& 31)) &&& (255 : Int32)) <<< ((0 : Int32) &&& 31)) ||| (((c >>> ((8 : Int32) &&& 31)) &&& (255 : Int32)) <<< ((8 : Int32) &&& 31)) = c := by
  have h := own_hi c h0 h1
  apply Int32.toBitVec_inj.mp
  show (((c.toBitVec.sshiftRight 0) &&& 255#32) <<< 0 ||| ((c.toBitVec.sshiftRight 8) &&& 255#32) <<< 8) = c.toBitVec
  rw [BitVec.sshiftRight_eq_of_msb_false h.2, BitVec.sshiftRight_eq_of_msb_false h.2]
  apply BitVec.eq_of_toNat_eq
  have h2 := h.1
  simp only [BitVec.toNat_or, BitVec.toNat_shiftLeft, BitVec.toNat_and, BitVec.toNat_ushiftRight]
  generalize c.toBitVec.toNat = n at h2
  show ((n >>> 0 &&& (2 ^ 8 - 1)) <<< 0 % 2 ^ 32 ||| (n >>> 8 &&& (2 ^ 8 - 1)) <<< 8 % 2 ^ 32) = n
  rw [Nat.and_two_pow_sub_one_eq_mod, Nat.and_two_pow_sub_one_eq_mod, Nat.shiftRight_zero, Nat.shiftLeft_zero, Nat.shiftRight_eq_div_pow]
  have e1 : n / 2 ^ 8 % 2 ^ 8 = n / 2 ^ 8 := by omega
  have e2 : n % 2 ^ 8 % 2 ^ 32 = n % 2 ^ 8 := by omega
  have e3 : (n / 2 ^ 8) <<< 8 % 2 ^ 32 = (n / 2 ^ 8) <<< 8 := by rw [Nat.shiftLeft_eq]; omega
  rw [e1, e2, e3, Nat.or_comm, ← Nat.shiftLeft_add_eq_or_of_lt (by omega), Nat.shiftLeft_eq]
  omega
theorem own_lat (c : Int32) (h0 : ¬ c < 0) (h1 : ¬ (255 : Int32) < c) : nar .char (nar .char (((nar .byte (c.toInt8.toInt32)) &&& (255 : Int32)).toUInt32.toUInt16.toUInt32.toInt32)) = c := by
  have h2 : ¬ (65535 : Int32) < c := by
    have z1 : (255 : Int32).toInt = 255 := by decide
    have z2 : (65535 : Int32).toInt = 65535 := by decide
    rw [Int32.lt_iff_toInt_lt] at *; omega
  have e : nar .byte (c.toInt8.toInt32) = c.toInt8.toInt32 := by simp [nar]
  rw [e, own_b, own_a255 c h0 h1]
  simp only [nar, own_nc c h0 h2]
theorem own_u16 (c : Int32) (h0 : ¬ c < 0) (h1 : ¬ (65535 : Int32) < c) : nar .char ((((nar .byte ((c >>> ((0 : Int32) &&& 31)).toInt8.toInt32)) &&& (255 : Int32)) <<< ((0 : Int32) &&& 31)) ||| (((nar .byte ((c >>> ((8 : Int32) &&& 31)).toInt8.toInt32)) &&& (255 : Int32)) <<< ((8 : Int32) &&& 31))).toUInt32.toUInt16.toUInt32.toInt32 = c := by
  have e : ∀ x : Int32, nar .byte (x.toInt8.toInt32) = x.toInt8.toInt32 := fun x => by simp [nar]
  rw [e, e, own_b, own_b, own_or c h0 h1]
  simp only [nar, own_nc c h0 h1]
theorem own_safe {Z : State} {EL : List (String × Nat)} {vm : Vm} {h : Heap} {x : Addr} (hal : Z.vm.Alike vm) (F : Fld Z h x "java/lang/String" "value" "[B" .null) (E : Exa Z h x "java/lang/String") : Safe Z EL vm h x := fun B => by
  obtain ⟨p, -, u, a, -, q, -, S, rfl | rfl⟩ := B
  · obtain ⟨cell, cf, k, i, f, h1, h2, -, -, -, -, h7⟩ := F
    cases (show h[q.sa]? = some q.sC from S.ha).symm.trans h1
    obtain ⟨cS, ⟨⟨-, -, -, ⟨c1, k1, i1, f1, -⟩, -, -, -, v1, -⟩, -⟩, -⟩ := S
    obtain ⟨k3, e3, -⟩ := State.fieldFound?_setVm (s := Z) hal h2
    have e4 := (show (Wst Z vm h).fieldFound? _ _ _ = _ from e3).symm.trans f1
    simp only [Option.some.injEq, Prod.mk.injEq] at e4
    rw [e4.2.2.2, v1] at h7; cases h7
  · obtain ⟨cell, k, e1, e2, e3, -, -⟩ := E
    cases (show h[q.sd]? = some q.SA from S.hd).symm.trans e1
    obtain ⟨cS, -, -, f, -⟩ := S
    have f' : vm.findClass "[B" = some q.SA.cls := f
    rw [hal.findClass] at f'
    obtain ⟨k1, q1, q2⟩ := Vm.findClass_spec f'
    obtain ⟨k2, q3, q4⟩ := Vm.findClass_spec e2
    cases q1.symm.trans q3
    exact absurd (q2.symm.trans q4) (by decide)
def Lo8 (c : Int32) : Int32 := nar .byte (c.toInt8.toInt32)
def Ulo (c : Int32) : Int32 := nar .byte ((c >>> ((0 : Int32) &&& 31)).toInt8.toInt32)
def Uhi (c : Int32) : Int32 := nar .byte ((c >>> ((8 : Int32) &&& 31)).toInt8.toInt32)
def Hex (c : Int32) : Prop := (48 ≤ c.toInt ∧ c.toInt ≤ 57) ∨ (97 ≤ c.toInt ∧ c.toInt ≤ 102) ∨ (65 ≤ c.toInt ∧ c.toInt ≤ 70)
def Idx (N : Nat) (P : Nat → Prop) (f : Nat) (z : Int32) : Prop := (z = -1 ∧ ∀ j, f ≤ j → j < N → ¬ P j) ∨ ∃ k, z = Int32.ofNat k ∧ f ≤ k ∧ k < N ∧ P k ∧ ∀ j, f ≤ j → j < k → ¬ P j
def Bad (N : Nat) (C : Nat → Int32) (i : Nat) : Prop := ¬ ((i + 1 < N ∧ Hex (C (i + 1))) ∧ (i + 2 < N ∧ Hex (C (i + 2))))
def Bde (N : Nat) (C : Nat → Int32) (i : Nat) : Prop := i < N ∧ C i = 37 ∧ Bad N C i
def StrL (Z : State) (h : Heap) (x t : Addr) (N : Nat) (C B : Nat → Int32) : Prop := Exa Z h x "java/lang/String" ∧ Fld Z h x "java/lang/String" "value" "[B" (.ref t) ∧ Fld Z h x "java/lang/String" "coder" "B" (.int (0 : Int32)) ∧ ArF Z h t .byte N B ∧ ∀ i, i < N → B i = Lo8 (C i) ∧ ¬ (255 : Int32) < C i
def StrU (Z : State) (h : Heap) (x t : Addr) (N : Nat) (C B : Nat → Int32) : Prop := Exa Z h x "java/lang/String" ∧ Fld Z h x "java/lang/String" "value" "[B" (.ref t) ∧ Fld Z h x "java/lang/String" "coder" "B" (.int (1 : Int32)) ∧ ArF Z h t .byte (2 * N) B ∧ ∀ i, i < N → B (2 * i) = Ulo (C i) ∧ B (2 * i + 1) = Uhi (C i)
def StrF (Z : State) (h : Heap) (x : Addr) (N : Nat) (C : Nat → Int32) : Prop := ∃ (t : Addr) (B : Nat → Int32), (∀ i, i < N → IsCh (C i)) ∧ (StrL Z h x t N C B ∨ StrU Z h x t N C B)
theorem StrF.exa {Z : State} {h : Heap} {x : Addr} {N : Nat} {C : Nat → Int32} (S : StrF Z h x N C) : Exa Z h x "java/lang/String" := by
  obtain ⟨t, B, -, S | S⟩ := S
  · exact S.1
  · exact S.1
theorem own_isch_nar (x : Int32) : IsCh (nar .char x) := by
  have h := fits_nar_char x
  simp only [fits, Bool.and_eq_true, decide_eq_true_eq] at h
  refine ⟨fun q => ?_, fun q => ?_⟩
  · have h1 := h.1
    rw [Int32.le_iff_toInt_le] at h1; rw [Int32.lt_iff_toInt_lt] at q; omega
  · have h1 := h.2
    rw [Int32.le_iff_toInt_le] at h1; rw [Int32.lt_iff_toInt_lt] at q; omega
theorem own_e37 {c : Int32} (h0 : IsCh c) (h1 : ¬ (255 : Int32) < c) : Lo8 c = 37 ↔ c = 37 := by
  have e : Lo8 c = c.toInt8.toInt32 := by simp [Lo8, nar]
  refine ⟨fun q => ?_, fun q => by rw [q]; decide⟩
  have b := own_b c
  rw [← e, q, own_a255 c h0.1 h1] at b
  rw [← b]; decide
theorem own_idx_congr {N f : Nat} {P Q : Nat → Prop} {z : Int32} (h : Idx N P f z) (e : ∀ j, j < N → (P j ↔ Q j)) : Idx N Q f z := by
  rcases h with ⟨h1, h2⟩ | ⟨k, h1, h2, h3, h4, h5⟩
  · exact Or.inl ⟨h1, fun j a b c => h2 j a b ((e j b).mpr c)⟩
  · exact Or.inr ⟨k, h1, h2, h3, (e k h3).mp h4, fun j a b c => h5 j a b ((e j (by omega)).mpr c)⟩
theorem own_idx_none {N f : Nat} {P : Nat → Prop} (h : ¬ f < N) : Idx N P f (-1) := Or.inl ⟨rfl, fun j a b => by omega⟩
/-- a digit's worth, as hexDigit says it -/
def HxS (N : Nat) (C : Nat → Int32) (i : Nat) (z : Int32) : Prop := (z = -1 ∧ ¬ (i < N ∧ Hex (C i))) ∨ (0 ≤ z.toInt ∧ z.toInt ≤ 15 ∧ i < N ∧ Hex (C i))
theorem own_hx_val {c d : Int32} {k : Int} (hd : d.toInt = k) (h1 : 0 ≤ k ∧ k ≤ 200) (h2 : k ≤ c.toInt ∧ c.toInt ≤ k + 15) : (c - d).toInt = c.toInt - k := by
  rw [Int32.toInt_sub, hd]; exact Int.bmod_eq_of_le (by omega) (by omega)
theorem own_hx10 {x : Int32} (h : 0 ≤ x.toInt ∧ x.toInt ≤ 15) : (x + (10 : Int32)).toInt = x.toInt + 10 := by
  have e : (10 : Int32).toInt = 10 := by decide
  rw [Int32.toInt_add, e]; exact Int.bmod_eq_of_le (by omega) (by omega)
theorem own_hx_none {N : Nat} {C : Nat → Int32} {i : Nat} (h : ¬ i < N) : HxS N C i (-1) := Or.inl ⟨rfl, fun q => h q.1⟩
theorem own_hx_no {N : Nat} {C : Nat → Int32} {i : Nat} (h : ¬ Hex (C i)) : HxS N C i (-1) := Or.inl ⟨rfl, fun q => h q.2⟩
theorem own_hx_dig {N : Nat} {C : Nat → Int32} {i : Nat} (hi : i < N) (a : ¬ C i < (48 : Int32)) (b : ¬ (57 : Int32) < C i) : HxS N C i (C i - (48 : Int32)) := by
  have e : (48 : Int32).toInt = 48 := by decide
  have e2 : (57 : Int32).toInt = 57 := by decide
  rw [Int32.lt_iff_toInt_lt] at a b
  have v := own_hx_val (c := C i) e (by omega) (by omega)
  exact Or.inr ⟨by omega, by omega, hi, Or.inl (by omega)⟩
theorem own_hx_low {N : Nat} {C : Nat → Int32} {i : Nat} (hi : i < N) (a : ¬ C i < (97 : Int32)) (b : ¬ (102 : Int32) < C i) : HxS N C i ((C i - (97 : Int32)) + (10 : Int32)) := by
  have e : (97 : Int32).toInt = 97 := by decide
  have e2 : (102 : Int32).toInt = 102 := by decide
  rw [Int32.lt_iff_toInt_lt] at a b
  have v := own_hx_val (c := C i) e (by omega) (by omega)
  have v2 := own_hx10 (x := C i - 97) (by omega)
  exact Or.inr ⟨by omega, by omega, hi, Or.inr (Or.inl (by omega))⟩
theorem own_hx_up {N : Nat} {C : Nat → Int32} {i : Nat} (hi : i < N) (a : ¬ C i < (65 : Int32)) (b : ¬ (70 : Int32) < C i) : HxS N C i ((C i - (65 : Int32)) + (10 : Int32)) := by
  have e : (65 : Int32).toInt = 65 := by decide
  have e2 : (70 : Int32).toInt = 70 := by decide
  rw [Int32.lt_iff_toInt_lt] at a b
  have v := own_hx_val (c := C i) e (by omega) (by omega)
  have v2 := own_hx10 (x := C i - 65) (by omega)
  exact Or.inr ⟨by omega, by omega, hi, Or.inr (Or.inr (by omega))⟩
theorem own_hex_no {c : Int32} (a : c < (48 : Int32) ∨ (57 : Int32) < c) (b : c < (97 : Int32) ∨ (102 : Int32) < c) (d : c < (65 : Int32) ∨ (70 : Int32) < c) : ¬ Hex c := by
  have e1 : (48 : Int32).toInt = 48 := by decide
  have e2 : (57 : Int32).toInt = 57 := by decide
  have e3 : (97 : Int32).toInt = 97 := by decide
  have e4 : (102 : Int32).toInt = 102 := by decide
  have e5 : (65 : Int32).toInt = 65 := by decide
  have e6 : (70 : Int32).toInt = 70 := by decide
  simp only [Int32.lt_iff_toInt_lt] at a b d
  unfold Hex
  omega
/-- what encodedByte says -/
def EnS (N : Nat) (C : Nat → Int32) (k : Nat) (z : Int32) : Prop := (z < 0 ∧ Bad N C k) ∨ (¬ z < 0 ∧ ¬ Bad N C k)
theorem own_hx_neg {N : Nat} {C : Nat → Int32} {i : Nat} {z : Int32} (h : HxS N C i z) (q : z < 0) : ¬ (i < N ∧ Hex (C i)) := by
  rcases h with h | h
  · exact h.2
  · rw [Int32.lt_iff_toInt_lt, show (0 : Int32).toInt = 0 by decide] at q; omega
theorem own_hx_pos {N : Nat} {C : Nat → Int32} {i : Nat} {z : Int32} (h : HxS N C i z) (q : ¬ z < 0) : 0 ≤ z.toInt ∧ z.toInt ≤ 15 ∧ i < N ∧ Hex (C i) := by
  rcases h with h | h
  · rw [h.1] at q; exact absurd (by decide) q
  · exact h
theorem own_en_1 {N : Nat} {C : Nat → Int32} {k : Nat} {x : Int32} (h : HxS N C (k + 1) x) (q : x < 0) : EnS N C k (-1) := Or.inl ⟨by decide, fun p => own_hx_neg h q p.1⟩
theorem own_en_2 {N : Nat} {C : Nat → Int32} {k : Nat} {x : Int32} (h : HxS N C (k + 2) x) (q : x < 0) : EnS N C k (-1) := Or.inl ⟨by decide, fun p => own_hx_neg h q p.2⟩
theorem own_en_3 {N : Nat} {C : Nat → Int32} {k : Nat} {x y : Int32} (h : HxS N C (k + 1) x) (g : HxS N C (k + 2) y) (q : ¬ x < 0) (r : ¬ y < 0) : EnS N C k ((x * (16 : Int32)) + y) := by
  have a := own_hx_pos h q
  have b := own_hx_pos g r
  have e : (16 : Int32).toInt = 16 := by decide
  have m : (x * (16 : Int32)).toInt = x.toInt * 16 := by rw [Int32.toInt_mul, e]; exact Int.bmod_eq_of_le (by omega) (by omega)
  have s : ((x * (16 : Int32)) + y).toInt = x.toInt * 16 + y.toInt := by rw [Int32.toInt_add, m]; exact Int.bmod_eq_of_le (by omega) (by omega)
  refine Or.inr ⟨?_, fun z => z ⟨a.2.2, b.2.2⟩⟩
  rw [Int32.lt_iff_toInt_lt, s, show (0 : Int32).toInt = 0 by decide]; omega
/-- what hasBadEscape says -/
def HbS (N : Nat) (C : Nat → Int32) (z : Int32) : Prop := (z = 1 ∧ ∃ i, Bde N C i) ∨ (z = 0 ∧ ∀ i, ¬ Bde N C i)
/-- what badAt says -/
def BaS (N : Nat) (C : Nat → Int32) (i : Nat) (z : Int32) : Prop := (z = 1 ∧ Bde N C i) ∨ (z = 0 ∧ ¬ Bde N C i)
theorem own_ba_ne {N : Nat} {C : Nat → Int32} {i : Nat} {z : Int32} (h : BaS N C i z) (q : ¬ z = 0) : Bde N C i := by
  rcases h with h | h
  · exact h.2
  · exact absurd h.1 q
theorem own_ba_eq {N : Nat} {C : Nat → Int32} {i : Nat} {z : Int32} (h : BaS N C i z) (q : z = 0) : ¬ Bde N C i := by
  rcases h with h | h
  · rw [h.1] at q; exact absurd q (by decide)
  · exact h.2
theorem own_hb_1 {N : Nat} {C : Nat → Int32} {z : Int32} (h : HbS N C z) {i : Nat} (q : Bde N C i) : z = 1 := by
  rcases h with h | h
  · exact h.1
  · exact absurd q (h.2 i)
theorem own_hb_0 {N : Nat} {C : Nat → Int32} {z : Int32} (h : HbS N C z) (hN : N ≤ 5) (q0 : ¬ Bde N C 0) (q1 : ¬ Bde N C 1) (q2 : ¬ Bde N C 2) (q3 : ¬ Bde N C 3) (q4 : ¬ Bde N C 4) : z = 0 := by
  rcases h with ⟨-, i, hi⟩ | h
  · have : i < N := hi.1
    have hh : i = 0 ∨ i = 1 ∨ i = 2 ∨ i = 3 ∨ i = 4 := by omega
    rcases hh with rfl | rfl | rfl | rfl | rfl <;> contradiction
  · exact h.1
theorem own_neg32 {N : Nat} (h1 : 1 ≤ N) (h2 : N ≤ 500) : ((Int32.ofNat N - Int32.ofNat (2 * N)).toUInt32 >>> ((31 : Int32) &&& 31).toUInt32).toInt32.toInt8.toInt32 = (1 : Int32) := by
  have e : Int32.ofNat N - Int32.ofNat (2 * N) = Int32.ofInt (-(N : Int)) := by
    apply Int32.toInt_inj.mp
    rw [Int32.toInt_sub, own_ti (by omega), own_ti (by omega), Int32.toInt_ofInt_of_le (by omega) (by omega)]
    rw [Int.bmod_eq_of_le (by omega) (by omega)]; omega
  have k : (Int32.ofNat N - Int32.ofNat (2 * N)).toUInt32 >>> ((31 : Int32) &&& 31).toUInt32 = 1 := by
    rw [e]
    apply UInt32.toNat_inj.mp
    rw [UInt32.toNat_shiftRight]
    have t : (Int32.ofInt (-(N : Int))).toUInt32.toNat = 2 ^ 32 - N := by
      show (BitVec.ofInt 32 (-(N : Int))).toNat = _
      rw [BitVec.toNat_ofInt]; omega
    have s : ((31 : Int32) &&& 31).toUInt32.toNat % 32 = 31 := by decide
    rw [t, s, Nat.shiftRight_eq_div_pow]
    show _ = 1
    omega
  rw [k]; decide
theorem own_sub0 (N : Nat) : ((Int32.ofNat N - Int32.ofNat N).toUInt32 >>> ((31 : Int32) &&& 31).toUInt32).toInt32.toInt8.toInt32 = (0 : Int32) := by
  have e : Int32.ofNat N - Int32.ofNat N = 0 := by apply Int32.toInt_inj.mp; simp
  rw [e]; decide
theorem own_irr (x : Int32) : ¬ x < x := fun q => by rw [Int32.lt_iff_toInt_lt] at q; omega
theorem own_step {P : Nat → Prop} {f i : Nat} (h : ∀ j, f ≤ j → j < i → ¬ P j) (q : ¬ P i) : ∀ j, f ≤ j → j < i + 1 → ¬ P j := fun j a b => by
  by_cases e : j = i
  · rw [e]; exact q
  · exact h j a (by omega)
theorem own_idx_iff {N f : Nat} {P Q : Nat → Prop} {z : Int32} (e : ∀ j, j < N → (P j ↔ Q j)) : Idx N P f z ↔ Idx N Q f z := ⟨fun h => own_idx_congr h e, fun h => own_idx_congr h fun j hj => (e j hj).symm⟩
theorem own_hb_end {N j : Nat} {C : Nat → Int32} (h : ∀ t, t < j → ¬ Bde N C t) (g : ∀ t, j ≤ t → t < N → ¬ (fun j => C j = (37 : Int32)) t) : ∀ i, ¬ Bde N C i := fun i q => by
  by_cases a : i < j
  · exact h i a q
  · exact g i (by omega) q.1 q.2.1
theorem own_en_ok {N t : Nat} {C : Nat → Int32} {z : Int32} (h : EnS N C t z) (q : ¬ z < 0) : ¬ Bad N C t := by
  rcases h with h | h
  · exact absurd h.1 q
  · exact h.2
theorem own_en_bad {N t : Nat} {C : Nat → Int32} {z : Int32} (h : EnS N C t z) (q : z < 0) : Bad N C t := by
  rcases h with h | h
  · exact h.2
  · exact absurd q h.1
theorem own_hb_step {N j t : Nat} {C : Nat → Int32} {z : Int32} (h : ∀ t, t < j → ¬ Bde N C t) (g : ∀ u, j ≤ u → u < t → ¬ (fun j => C j = (37 : Int32)) u) (e : EnS N C t z) (q : ¬ z < 0) : ∀ u, u < t + 1 → ¬ Bde N C u := fun u hu b => by
  by_cases a : u < j
  · exact h u a b
  · by_cases d : u = t
    · rw [d] at b; exact own_en_ok e q b.2.2
    · exact g u (by omega) (by omega) b.2.1
theorem own_hex_48 {c : Int32} (a : ¬ c < (48 : Int32)) (b : ¬ (57 : Int32) < c) : Hex c := by
  rw [Int32.lt_iff_toInt_lt, show (48 : Int32).toInt = 48 by decide] at a
  rw [Int32.lt_iff_toInt_lt, show (57 : Int32).toInt = 57 by decide] at b
  exact Or.inl (by omega)
theorem own_hex_97 {c : Int32} (a : ¬ c < (97 : Int32)) (b : ¬ (102 : Int32) < c) : Hex c := by
  rw [Int32.lt_iff_toInt_lt, show (97 : Int32).toInt = 97 by decide] at a
  rw [Int32.lt_iff_toInt_lt, show (102 : Int32).toInt = 102 by decide] at b
  exact Or.inr (Or.inl (by omega))
theorem own_hex_65 {c : Int32} (a : ¬ c < (65 : Int32)) (b : ¬ (70 : Int32) < c) : Hex c := by
  rw [Int32.lt_iff_toInt_lt, show (65 : Int32).toInt = 65 by decide] at a
  rw [Int32.lt_iff_toInt_lt, show (70 : Int32).toInt = 70 by decide] at b
  exact Or.inr (Or.inr (by omega))
theorem own_hx_z {c z : Int32} (h : (z = 1 ∧ Hex c) ∨ (z = 0 ∧ ¬ Hex c)) (q : z = 0) : ¬ Hex c := by
  rcases h with h | h
  · rw [h.1] at q; exact absurd q (by decide)
  · exact h.2
theorem own_hx_nz {c z : Int32} (h : (z = 1 ∧ Hex c) ∨ (z = 0 ∧ ¬ Hex c)) (q : ¬ z = 0) : Hex c := by
  rcases h with h | h
  · exact h.2
  · exact absurd h.1 q
theorem own_big {i : Nat} (h : i ≤ 1000) : Int32.ofNat i < (1073741823 : Int32) := by
  rw [Int32.lt_iff_toInt_lt, own_ti h, show (1073741823 : Int32).toInt = 1073741823 by decide]; omega
theorem own_inj {i j : Nat} (hi : i ≤ 1000) (hj : j ≤ 1000) (h : Int32.ofNat i = Int32.ofNat j) : i = j := by
  have := congrArg Int32.toInt h
  rw [own_ti hi, own_ti hj] at this; omega
theorem own_n0 {i : Nat} (h1 : 1 ≤ i) (h : i ≤ 1000) : ¬ (Int32.ofNat i = 0) := fun q => by
  have := own_inj (j := 0) h (by omega) q; omega
def PutS (B B2 : Nat → Int32) (i : Nat) (x : Int32) : Prop := B2 (2 * i) = Ulo x ∧ B2 ((2 * i) + 1) = Uhi x ∧ ∀ t, t ≠ 2 * i → t ≠ (2 * i) + 1 → B2 t = B t
theorem own_put {B : Nat → Int32} {i : Nat} {x : Int32} : PutS B (fun t => if t = ((2 * i) + 1) then (nar .byte ((x >>> ((8 : Int32) &&& 31)).toInt8.toInt32)) else (fun t => if t = (2 * i) then (nar .byte ((x >>> ((0 : Int32) &&& 31)).toInt8.toInt32)) else B t) t) i x := by
  refine ⟨?_, ?_, fun t a b => ?_⟩
  · show (if 2 * i = 2 * i + 1 then _ else (if 2 * i = 2 * i then _ else _)) = _
    rw [if_neg (by omega), if_pos rfl]; rfl
  · show (if 2 * i + 1 = 2 * i + 1 then _ else _) = _
    rw [if_pos rfl]; rfl
  · show (if t = 2 * i + 1 then _ else (if t = 2 * i then _ else _)) = _
    rw [if_neg b, if_neg a]
theorem own_put_step {B B2 C : Nat → Int32} {i : Nat} (h : ∀ t, t < i → B (2 * t) = Ulo (C t) ∧ B ((2 * t) + 1) = Uhi (C t)) (p : PutS B B2 i (C i)) : ∀ t, t < i + 1 → B2 (2 * t) = Ulo (C t) ∧ B2 ((2 * t) + 1) = Uhi (C t) := fun t ht => by
  by_cases e : t = i
  · rw [e]; exact ⟨p.1, p.2.1⟩
  · rw [p.2.2 (2 * t) (by omega) (by omega), p.2.2 (2 * t + 1) (by omega) (by omega)]; exact h t (by omega)
theorem own_b_step {B C : Nat → Int32} {i : Nat} (h : ∀ t, t < i → B t = Lo8 (C t) ∧ ¬ (255 : Int32) < C t) (q : ¬ (255 : Int32) < C i) : ∀ t, t < i + 1 → (fun t => if t = i then (nar .byte ((C i).toInt8.toInt32)) else B t) t = Lo8 (C t) ∧ ¬ (255 : Int32) < C t := fun t ht => by
  by_cases e : t = i
  · subst e; exact ⟨if_pos rfl, q⟩
  · exact ⟨(if_neg e).trans (h t (by omega)).1, (h t (by omega)).2⟩
def own_ccl : List Int32 := [48, 49, 50, 51, 52, 53, 54, 55, 56, 57, 97, 98, 99, 100, 101, 102, 65, 66, 67, 68, 69, 70]
def own_cc (i : Nat) : Int32 := own_ccl.getD i 0
theorem own_getmap (l : List Int32) (i : Nat) : (l.map Value.int).getD i (Value.int 0) = Value.int (l.getD i 0) := by
  simp only [List.getD_eq_getElem?_getD, List.getElem?_map]
  cases l[i]? <;> rfl
theorem own_cc_at (i : Nat) : (own_ccl.map Value.int).getD i (Value.int 0) = Value.int (own_cc i) := own_getmap own_ccl i
theorem own_cc_ch : ∀ i, i < 22 → IsCh (own_cc i) := by unfold IsCh; decide +kernel
theorem own_cc_lo : ∀ i, i < 22 → own_cc i = Lo8 (own_cc i) ∧ ¬ (255 : Int32) < own_cc i := by decide +kernel
theorem own_nat32 {x : Int32} {n : Nat} (h0 : 0 ≤ x.toInt) (h1 : x.toInt < n) (hn : n ≤ 1000) : ∃ j, x = Int32.ofNat j ∧ j < n := by
  refine ⟨x.toInt.toNat, ?_, by omega⟩
  apply Int32.toInt_inj.mp
  rw [own_ti (by omega)]; omega
theorem own_m22 (p : Int32) : ∃ j, (((p.toUInt32 >>> ((2 : Int32) &&& 31).toUInt32).toInt32) % (22 : Int32)) = Int32.ofNat j ∧ j < 22 := by
  have hs : ((2 : Int32) &&& 31).toUInt32.toNat % 32 = 2 := by decide
  have hn : (p.toUInt32 >>> ((2 : Int32) &&& 31).toUInt32).toNat < 2 ^ 30 := by
    rw [UInt32.toNat_shiftRight, hs, Nat.shiftRight_eq_div_pow]
    have := p.toUInt32.toNat_lt
    omega
  generalize p.toUInt32 >>> ((2 : Int32) &&& 31).toUInt32 = u at *
  have e : u.toInt32.toInt = (u.toNat : Int) := by
    show u.toBitVec.toInt = (u.toBitVec.toNat : Int)
    have : u.toBitVec.toNat < 2 ^ 30 := hn
    exact BitVec.toInt_eq_toNat_of_lt (by omega)
  have q : (u.toInt32 % (22 : Int32)).toInt = (u.toNat : Int).tmod 22 := by rw [Int32.toInt_mod, e]; rfl
  have a := Int.tmod_nonneg (a := (u.toNat : Int)) 22 (by omega)
  have b := Int.tmod_lt_of_pos (u.toNat : Int) (show (0 : Int) < 22 by decide)
  exact own_nat32 (n := 22) (by omega) (by omega) (by omega)
theorem own_nn2 (x : Int32) : nar .char (nar .char x) = nar .char x := by
  have h := own_isch_nar x
  show (nar .char x).toUInt32.toUInt16.toUInt32.toInt32 = _
  exact own_nc _ h.1 h.2
def own_cf (a b c d e : Int32) (j : Nat) : Int32 := [a, b, c, d, e].getD j 0
theorem own_cf_ch {a b c d e : Int32} (ha : IsCh a) (hb : IsCh b) (hc : IsCh c) (hd : IsCh d) (he : IsCh e) (j : Nat) : IsCh (own_cf a b c d e j) := by
  match j with
  | 0 => exact ha
  | 1 => exact hb
  | 2 => exact hc
  | 3 => exact hd
  | 4 => exact he
  | k + 5 => exact (by unfold IsCh; decide : IsCh 0)
theorem own_max32 (x : Int32) : 0 ≤ (x &&& (2147483647 : Int32)).toInt := by
  have h : (x &&& (2147483647 : Int32)).toBitVec.toNat < 2 ^ 31 := by
    simp only [Int32.toBitVec_and, BitVec.toNat_and]
    exact Nat.lt_succ_of_le Nat.and_le_right
  have e : (x &&& (2147483647 : Int32)).toInt = ((x &&& (2147483647 : Int32)).toBitVec.toNat : Int) := by
    show (x &&& (2147483647 : Int32)).toBitVec.toInt = _
    exact BitVec.toInt_eq_toNat_of_lt (by omega)
  omega
theorem own_k5 {p k : Int32} (h : k = ((p &&& (2147483647 : Int32)) % (6 : Int32))) (h0 : ¬ k = 0) (h1 : ¬ k = 1) (h2 : ¬ k = 2) (h3 : ¬ k = 3) (h4 : ¬ k = 4) : k = 5 := by
  have m := own_max32 p
  have e : k.toInt = (p &&& (2147483647 : Int32)).toInt.tmod 6 := by rw [h, Int32.toInt_mod]; rfl
  have a := Int.tmod_nonneg 6 m
  have b := Int.tmod_lt_of_pos (p &&& (2147483647 : Int32)).toInt (show (0 : Int) < 6 by decide)
  have lit : ∀ n : Int32, k.toInt = n.toInt → k = n := fun n q => Int32.toInt_inj.mp q
  have m0 : k.toInt ≠ 0 := fun q => h0 (lit 0 q)
  have m1 : k.toInt ≠ 1 := fun q => h1 (lit 1 q)
  have m2 : k.toInt ≠ 2 := fun q => h2 (lit 2 q)
  have m3 : k.toInt ≠ 3 := fun q => h3 (lit 3 q)
  have m4 : k.toInt ≠ 4 := fun q => h4 (lit 4 q)
  exact lit 5 (by show k.toInt = 5; omega)
def D8 (b : Int32) : Int32 := nar .char ((b &&& (255 : Int32)).toUInt32.toUInt16.toUInt32.toInt32)
def D16 (b c : Int32) : Int32 := nar .char ((((b &&& (255 : Int32)) <<< ((0 : Int32) &&& 31)) ||| ((c &&& (255 : Int32)) <<< ((8 : Int32) &&& 31))).toUInt32.toUInt16.toUInt32.toInt32)
def EL : List (String × Nat) := [("com/example/grantline/grantline/PercentEncodingHasBadEscapePinLaw", 29), ("java/lang/String", 7)]
theorem own_wS {a0 : Array Value} {Z : State} (hw : ∀ d ∈ tables_1, d.before a0 Z = true) : ∀ d ∈ Bundle.stringAtoms, d.before a0 Z = true := fun d hd => hw d ((by decide +kernel : ∀ d ∈ Bundle.stringAtoms, d ∈ tables_1) d hd)
theorem pd_0 : parseMethodDescriptor "(IILjava/util/function/BiFunction;)I" = some ⟨[.int, .int, (.object "java/util/function/BiFunction")], some .int⟩ := by decide +kernel
theorem pd_1 : parseMethodDescriptor "(IIILjava/util/function/BiFunction;)I" = some ⟨[.int, .int, .int, (.object "java/util/function/BiFunction")], some .int⟩ := by decide +kernel
theorem pd_2 : parseMethodDescriptor "()B" = some ⟨[], some .byte⟩ := by decide +kernel
theorem pd_3 : parseMethodDescriptor "(II)V" = some ⟨[.int, .int], none⟩ := by decide +kernel
theorem pd_4 : parseMethodDescriptor "([B)I" = some ⟨[(.array .byte)], some .int⟩ := by decide +kernel
theorem pd_5 : parseMethodDescriptor "(I[B)V" = some ⟨[.int, (.array .byte)], none⟩ := by decide +kernel
theorem pd_6 : parseMethodDescriptor "([BI)C" = some ⟨[(.array .byte), .int], some .char⟩ := by decide +kernel
theorem pd_7 : parseMethodDescriptor "()Z" = some ⟨[], some .boolean⟩ := by decide +kernel
theorem pd_8 : parseMethodDescriptor "(I)Z" = some ⟨[.int], some .boolean⟩ := by decide +kernel
theorem pd_9 : parseMethodDescriptor "(II)I" = some ⟨[.int, .int], some .int⟩ := by decide +kernel
theorem pd_10 : parseMethodDescriptor "([BIII)I" = some ⟨[(.array .byte), .int, .int, .int], some .int⟩ := by decide +kernel
theorem pd_11 : parseMethodDescriptor "(III)V" = some ⟨[.int, .int, .int], none⟩ := by decide +kernel
theorem pd_12 : parseMethodDescriptor "(II[B)V" = some ⟨[.int, .int, (.array .byte)], none⟩ := by decide +kernel
theorem pd_13 : parseMethodDescriptor "()I" = some ⟨[], some .int⟩ := by decide +kernel
theorem pd_14 : parseMethodDescriptor "(I)C" = some ⟨[.int], some .char⟩ := by decide +kernel
theorem pd_15 : parseMethodDescriptor "(Ljava/lang/String;I)I" = some ⟨[(.object "java/lang/String"), .int], some .int⟩ := by decide +kernel
theorem pd_16 : parseMethodDescriptor "(I)I" = some ⟨[.int], some .int⟩ := by decide +kernel
theorem pd_17 : parseMethodDescriptor "(C)Z" = some ⟨[.char], some .boolean⟩ := by decide +kernel
theorem pd_18 : parseMethodDescriptor "(I)[B" = some ⟨[.int], some (.array .byte)⟩ := by decide +kernel
theorem pd_19 : parseMethodDescriptor "([BII)V" = some ⟨[(.array .byte), .int, .int], none⟩ := by decide +kernel
theorem pd_20 : parseMethodDescriptor "([CI[BII)I" = some ⟨[(.array .char), .int, (.array .byte), .int, .int], some .int⟩ := by decide +kernel
theorem pd_21 : parseMethodDescriptor "([CII)[B" = some ⟨[(.array .char), .int, .int], some (.array .byte)⟩ := by decide +kernel
theorem pd_22 : parseMethodDescriptor "([BI)B" = some ⟨[(.array .byte), .int], some .byte⟩ := by decide +kernel
theorem pd_23 : parseMethodDescriptor "([CIILjava/lang/Void;)V" = some ⟨[(.array .char), .int, .int, (.object "java/lang/Void")], none⟩ := by decide +kernel
theorem pd_24 : parseMethodDescriptor "([CII)Z" = some ⟨[(.array .char), .int, .int], some .boolean⟩ := by decide +kernel
theorem pd_25 : parseMethodDescriptor "(Ljava/lang/String;)Z" = some ⟨[(.object "java/lang/String")], some .boolean⟩ := by decide +kernel
theorem pd_26 : parseMethodDescriptor "([C)V" = some ⟨[(.array .char)], none⟩ := by decide +kernel
theorem d6_0 : decode jdk_41_method_11_code 0 = .ok (.iload_n 0, 1) := by decide +kernel
theorem d6_1 : decode jdk_41_method_11_code 1 = .ok (.ifCond .lt 8, 3) := by decide +kernel
theorem d6_4 : decode jdk_41_method_11_code 4 = .ok (.iload_n 0, 1) := by decide +kernel
theorem d6_5 : decode jdk_41_method_11_code 5 = .ok (.iload_n 1, 1) := by decide +kernel
theorem d6_6 : decode jdk_41_method_11_code 6 = .ok (.if_icmp .lt 10, 3) := by decide +kernel
theorem d6_16 : decode jdk_41_method_11_code 16 = .ok (.iload_n 0, 1) := by decide +kernel
theorem d6_17 : decode jdk_41_method_11_code 17 = .ok (.ireturn, 1) := by decide +kernel
theorem pn_6 : plainName "jdk/internal/util/Preconditions" = true := by first | (simp [plainName, overriddenIn]; done) | decide +kernel
theorem ef_6 (m : MethodId) (p1 : Int32) (p2 : Int32) (a3 : Addr) : entryFrame m #[(.int p1), (.int p2), (.ref a3)] 3 = mkF m 0 #[.val (.int p1), .val (.int p2), .val (.ref a3)] [] := by first | (simp [entryFrame, mkF, argsToLocals, Value.category]; done) | rfl
def rv6 (p1 p2 : Int32) (a3 : Addr) : Int32 := p1
def Q6 (Z : State) (p1 : Int32) (p2 : Int32) (a3 : Addr) (h0 : Heap) (n0 : Nat) (v : Option Value) (h : Heap) (L : List Loc) : Prop := v = some (.int (rv6 p1 p2 a3)) ∧ Fr n0 L ∧ h = h0
set_option maxRecDepth 65536 in
set_option maxHeartbeats 40000000 in
theorem rm6 (l : Launch) (Z : State) (a0 : Array Value) (hw : ∀ d ∈ tables_1, d.before a0 Z = true) (ws : List Jvm.Cond) (p1 : Int32) (p2 : Int32) (a3 : Addr) (h0 : Heap) (n0 : Nat) (Z0 : n0 ≤ h0.size) (hlo : ¬ (p1 < 0)) (hhi : p1 < p2) :
    MetFree l (⟨"jdk/internal/util/Preconditions", "checkIndex", "(IILjava/util/function/BiFunction;)I"⟩ : MethodName) (head1 (Jvm.Cond.code (⟨"jdk/internal/util/Preconditions", "checkIndex", "(IILjava/util/function/BiFunction;)I"⟩ : MethodName) jdk_41_method_11_code 3 (some .int) :: ws) ({ frames := 0, cells := 0, slots := 0, locals := 0 } : Room)) (fun a U => a = #[(.int p1), (.int p2), (.ref a3)] ∧ Z.Warmed39 U.vm ∧ U.heap = h0) (fun _ _ _ _ _ => True) (fun _ U oo U' => ∃ v L, oo = .returned v ∧ Q6 Z p1 p2 a3 h0 n0 v U'.heap L ∧ FrameEnd U oo U' L ({ frames := 0, cells := 0, slots := 0, locals := 0 } : Room).cells ({ frames := 0, cells := 0, slots := 0, locals := 0 } : Room).slots) := by
  refine MetFree.of_bodySF (plainFor_of_name pn_6) hisR ?_
  intro p e s m args below meth c s₁ Bd hml0 hP hK
  obtain ⟨rfl, hZ, hh⟩ := hP
  have hx := Bd.exec
  have hby := Bd.bytes
  have hml : c.maxLocals = 3 := hml0
  have hown : s.vm.findClass "jdk/internal/util/Preconditions" = some m.cls := findClass_of_methodNamed Bd.named
  have hnm := (name_of_methodNamed Bd.named Bd.method).1
  have X0 : Stand p l e ({ frames := 0, cells := 0, slots := 0, locals := 0 } : Room) s m #[(.int p1), (.int p2), (.ref a3)] below meth c s₁ [] 0 0 := Stand.of_body Bd
  have e0 : s₁.heap = h0 := by rw [← hh, Bd.state]; rfl
  have N0 := Fr.nil n0
  have K0 : Keep h0 h0 [] := Keep.refl _ _
  have pre0 : ∀ tg, Steps p.tables e below (s₁.setTop (mkF m 0 #[.val (.int p1), .val (.int p2), .val (.ref a3)] [])) tg → Steps p.tables e below (s₁.setTop (entryFrame m #[(.int p1), (.int p2), (.ref a3)] 3)) tg := fun tg k => castTop (ef_6 m p1 p2 a3) k
  have st1 : ∀ tg, Steps p.tables e below (s₁.setTop (mkF m 17 #[.val (.int p1), .val (.int p2), .val (.ref a3)] [(.int p1)])) tg → Steps p.tables e below (s₁.setTop (mkF m 0 #[.val (.int p1), .val (.int p2), .val (.ref a3)] [])) tg := by
    intro tg kt
    refine XS.iloadN X0.here hx rfl (hb hby d6_0) rfl ?_
    refine XS.ifNo X0.here hx rfl (hb hby d6_1) rfl (XT.i0_lt_f hlo) ?_
    refine XS.iloadN X0.here hx rfl (hb hby d6_4) rfl ?_
    refine XS.iloadN X0.here hx rfl (hb hby d6_5) rfl ?_
    show Steps p.tables e below (s₁.setTop (mkF m 6 #[.val (.int p1), .val (.int p2), .val (.ref a3)] [(.int p2), (.int p1)])) tg
    refine XS.icmpYes X0.here hx rfl (pc0 := 6) (pc' := 16) rfl (hb hby d6_6) rfl (XT.ii_lt_t hhi) (by decide) (by decide) ?_
    refine XS.iloadN X0.here hx rfl (hb hby d6_16) rfl ?_
    exact kt
  obtain ⟨fs, hr, hrun, hended, hW, hsame⟩ := X0.leave (v := some (.int p1)) (fun h => by rw [Bd.returns] at h; cases h)
  refine ⟨_, _, pre0 _ ?_, hrun, hended, _, _, rfl, ?_, ⟨_, rfl⟩, hW, hsame.mono (by decide) (by decide)⟩
  · refine st1 _ ?_
    show Steps p.tables e below (s₁.setTop (mkF m 17 #[.val (.int p1), .val (.int p2), .val (.ref a3)] [(.int p1)])) _
    exact retI X0 hx Bd.returns (hb hby d6_17) hr
  · show Q6 Z p1 p2 a3 h0 n0 _ s₁.heap _
    rw [e0]
    exact ⟨rfl, N0, rfl⟩
theorem d5_0 : decode jdk_42_method_155_code 0 = .ok (.iload_n 0, 1) := by decide +kernel
theorem d5_1 : decode jdk_42_method_155_code 1 = .ok (.iload_n 1, 1) := by decide +kernel
theorem d5_2 : decode jdk_42_method_155_code 2 = .ok (.getstatic 1053, 3) := by decide +kernel
theorem d5_5 : decode jdk_42_method_155_code 5 = .ok (.invokestatic 1059, 3) := by decide +kernel
theorem d5_8 : decode jdk_42_method_155_code 8 = .ok (.pop, 1) := by decide +kernel
theorem d5_9 : decode jdk_42_method_155_code 9 = .ok (.return_, 1) := by decide +kernel
theorem pn_5 : plainName "java/lang/String" = true := by first | (simp [plainName, overriddenIn]; done) | decide +kernel
theorem ef_5 (m : MethodId) (p1 : Int32) (p2 : Int32) : entryFrame m #[(.int p1), (.int p2)] 2 = mkF m 0 #[.val (.int p1), .val (.int p2)] [] := by first | (simp [entryFrame, mkF, argsToLocals, Value.category]; done) | rfl
def Q5 (Z : State) (p1 : Int32) (p2 : Int32) (fa : Addr) (h0 : Heap) (n0 : Nat) (v : Option Value) (h : Heap) (L : List Loc) : Prop := v = none ∧ Fr n0 L ∧ h = h0
set_option maxRecDepth 65536 in
set_option maxHeartbeats 40000000 in
theorem rm5 (l : Launch) (Z : State) (a0 : Array Value) (hw : ∀ d ∈ tables_1, d.before a0 Z = true) (ws : List Jvm.Cond) (p1 : Int32) (p2 : Int32) (fa : Addr) (h0 : Heap) (n0 : Nat) (Z0 : n0 ≤ h0.size) (OLD : Old Z n0 h0) (S_f : Sta Z Z.heap "jdk/internal/util/Preconditions" "SIOOBE_FORMATTER" "Ljava/util/function/BiFunction;" (.ref fa)) (hlo : ¬ (p1 < 0)) (hhi : p1 < p2) :
    MetFree l (⟨"java/lang/String", "checkIndex", "(II)V"⟩ : MethodName) (head1 (Jvm.Cond.code (⟨"java/lang/String", "checkIndex", "(II)V"⟩ : MethodName) jdk_42_method_155_code 2 none :: ws) ({ frames := 1, cells := 0, slots := 0, locals := 14 } : Room)) (fun a U => a = #[(.int p1), (.int p2)] ∧ Z.Warmed39 U.vm ∧ U.heap = h0) (fun _ _ _ _ _ => True) (fun _ U oo U' => ∃ v L, oo = .returned v ∧ Q5 Z p1 p2 fa h0 n0 v U'.heap L ∧ FrameEnd U oo U' L ({ frames := 1, cells := 0, slots := 0, locals := 14 } : Room).cells ({ frames := 1, cells := 0, slots := 0, locals := 14 } : Room).slots) := by
  refine MetFree.of_bodySF (plainFor_of_name pn_5) hisR ?_
  intro p e s m args below meth c s₁ Bd hml0 hP hK
  obtain ⟨rfl, hZ, hh⟩ := hP
  have hx := Bd.exec
  have hby := Bd.bytes
  have hml : c.maxLocals = 2 := hml0
  have hown : s.vm.findClass "java/lang/String" = some m.cls := findClass_of_methodNamed Bd.named
  have hnm := (name_of_methodNamed Bd.named Bd.method).1
  have X0 : Stand p l e ({ frames := 1, cells := 0, slots := 0, locals := 14 } : Room) s m #[(.int p1), (.int p2)] below meth c s₁ [] 0 0 := Stand.of_body Bd
  have e0 : s₁.heap = h0 := by rw [← hh, Bd.state]; rfl
  have N0 := Fr.nil n0
  have K0 : Keep h0 h0 [] := Keep.refl _ _
  have pre0 : ∀ tg, Steps p.tables e below (s₁.setTop (mkF m 0 #[.val (.int p1), .val (.int p2)] [])) tg → Steps p.tables e below (s₁.setTop (entryFrame m #[(.int p1), (.int p2)] 2)) tg := fun tg k => castTop (ef_5 m p1 p2) k
  have st1 : ∀ tg, Steps p.tables e below (s₁.setTop (mkF m 2 #[.val (.int p1), .val (.int p2)] [(.int p2), (.int p1)])) tg → Steps p.tables e below (s₁.setTop (mkF m 0 #[.val (.int p1), .val (.int p2)] [])) tg := by
    intro tg kt
    refine XS.iloadN X0.here hx rfl (hb hby d5_0) rfl ?_
    refine XS.iloadN X0.here hx rfl (hb hby d5_1) rfl ?_
    exact kt
  obtain ⟨T2, X2, e2, st2⟩ := getS2 X0 hx hZ hown (host := "") (Or.inl (hw _ (List.mem_of_getElem? (i := 35) rfl))) Via.refl e0 (Sta.ext OLD.2 S_f) (g := (mkF m 2 #[.val (.int p1), .val (.int p2)] [(.int p2), (.int p1)])) rfl (hb hby d5_2)
  obtain ⟨_, _, ⟨T3, L3, k3, n3⟩, -, X3, ⟨Lc3, hQ3, l3, y3, z3⟩, st3⟩ := Jvm.LawKit.callS X2 hx (y := (⟨"jdk/internal/util/Preconditions", "checkIndex", "(IILjava/util/function/BiFunction;)I"⟩ : MethodName)) hown (mvT hZ (hw _ (List.mem_of_getElem? (i := 37) rfl))) (mvT hZ (hw _ (List.mem_of_getElem? (i := 38) rfl))) (mvT hZ (hw _ (List.mem_of_getElem? (i := 36) rfl))) (mvT hZ (hw _ (List.mem_of_getElem? (i := 39) rfl))) (by decide) (backOf (W := 0) (rm6 l Z a0 hw [] p1 p2 fa h0 n0 Z0 hlo hhi) hZ (hw _ (List.mem_of_getElem? (i := 39) rfl)) (hw _ (List.mem_of_getElem? (i := 36) rfl)) (by decide) (by decide)) (g := (mkF m 5 #[.val (.int p1), .val (.int p2)] [(.ref fa), (.int p2), (.int p1)])) rfl (by rw [hml]; rfl) (argsL := [(.int p1), (.int p2), (.ref fa)]) (rest := []) (lenOf pd_0 rfl) rfl (by show 2 * 0 + _ ≤ _; exact Nat.le_of_eq rfl) (hb hby d5_5) (fun _ _ => ⟨rfl, e2, (by decide : 0 + 0 ≤ _), (by decide : 0 + 0 ≤ _)⟩)
  dsimp only [Pt.U, Pt.locs, Pt.cells, Pt.slots] at X3 l3 y3 z3 st3 hQ3
  subst l3 y3 z3
  obtain ⟨rfl, N3q, e3⟩ := hQ3
  have N3 := Fr.app N0 N3q
  obtain ⟨r3, hr3⟩ : ∃ z, z = rv6 p1 p2 fa := ⟨_, rfl⟩
  rw [← hr3] at st3
  have st4 : ∀ tg, Steps p.tables e below (T3.setTop (mkF m 9 #[.val (.int p1), .val (.int p2)] [])) tg → Steps p.tables e below (T3.setTop (mkF m 8 #[.val (.int p1), .val (.int p2)] [(.int r3)])) tg := by
    intro tg kt
    refine XS.pop X3.here hx rfl (hb hby d5_8) rfl rfl ?_
    exact kt
  obtain ⟨fs, hr, hrun, hended, hW, hsame⟩ := X3.leave (v := none) (fun _ => rfl)
  refine ⟨_, _, pre0 _ ?_, hrun, hended, _, _, rfl, ?_, ⟨_, rfl⟩, hW, hsame.mono (by decide) (by decide)⟩
  · refine st1 _ ?_
    show Steps p.tables e below (s₁.setTop (mkF m 2 #[.val (.int p1), .val (.int p2)] [(.int p2), (.int p1)])) _
    refine st2 _ ?_
    show Steps p.tables e below (T2.setTop (mkF m 5 #[.val (.int p1), .val (.int p2)] [(.ref fa), (.int p2), (.int p1)])) _
    refine st3 _ ?_
    refine st4 _ ?_
    show Steps p.tables e below (T3.setTop (mkF m 9 #[.val (.int p1), .val (.int p2)] [])) _
    exact X3.returnOut hx Bd.returns (hb hby d5_9) hr
  · show Q5 Z p1 p2 fa h0 n0 _ T3.heap _
    rw [e3]
    exact ⟨rfl, N3, rfl⟩
theorem ef_6n (m : MethodId) (p1 : Int32) (p2 : Int32) : entryFrame m #[(.int p1), (.int p2), .null] 3 = mkF m 0 #[.val (.int p1), .val (.int p2), .val .null] [] := by first | (simp [entryFrame, mkF, argsToLocals, Value.category]; done) | rfl
def rv6n (p1 p2 : Int32) : Int32 := p1
def Q6n (Z : State) (p1 : Int32) (p2 : Int32) (h0 : Heap) (n0 : Nat) (v : Option Value) (h : Heap) (L : List Loc) : Prop := v = some (.int (rv6n p1 p2)) ∧ Fr n0 L ∧ h = h0
set_option maxRecDepth 65536 in
set_option maxHeartbeats 40000000 in
theorem rm6n (l : Launch) (Z : State) (a0 : Array Value) (hw : ∀ d ∈ tables_1, d.before a0 Z = true) (ws : List Jvm.Cond) (p1 : Int32) (p2 : Int32) (h0 : Heap) (n0 : Nat) (Z0 : n0 ≤ h0.size) (hlo : ¬ (p1 < 0)) (hhi : p1 < p2) :
    MetFree l (⟨"jdk/internal/util/Preconditions", "checkIndex", "(IILjava/util/function/BiFunction;)I"⟩ : MethodName) (head1 (Jvm.Cond.code (⟨"jdk/internal/util/Preconditions", "checkIndex", "(IILjava/util/function/BiFunction;)I"⟩ : MethodName) jdk_41_method_11_code 3 (some .int) :: ws) ({ frames := 0, cells := 0, slots := 0, locals := 0 } : Room)) (fun a U => a = #[(.int p1), (.int p2), .null] ∧ Z.Warmed39 U.vm ∧ U.heap = h0) (fun _ _ _ _ _ => True) (fun _ U oo U' => ∃ v L, oo = .returned v ∧ Q6n Z p1 p2 h0 n0 v U'.heap L ∧ FrameEnd U oo U' L ({ frames := 0, cells := 0, slots := 0, locals := 0 } : Room).cells ({ frames := 0, cells := 0, slots := 0, locals := 0 } : Room).slots) := by
  refine MetFree.of_bodySF (plainFor_of_name pn_6) hisR ?_
  intro p e s m args below meth c s₁ Bd hml0 hP hK
  obtain ⟨rfl, hZ, hh⟩ := hP
  have hx := Bd.exec
  have hby := Bd.bytes
  have hml : c.maxLocals = 3 := hml0
  have hown : s.vm.findClass "jdk/internal/util/Preconditions" = some m.cls := findClass_of_methodNamed Bd.named
  have hnm := (name_of_methodNamed Bd.named Bd.method).1
  have X0 : Stand p l e ({ frames := 0, cells := 0, slots := 0, locals := 0 } : Room) s m #[(.int p1), (.int p2), .null] below meth c s₁ [] 0 0 := Stand.of_body Bd
  have e0 : s₁.heap = h0 := by rw [← hh, Bd.state]; rfl
  have N0 := Fr.nil n0
  have K0 : Keep h0 h0 [] := Keep.refl _ _
  have pre0 : ∀ tg, Steps p.tables e below (s₁.setTop (mkF m 0 #[.val (.int p1), .val (.int p2), .val .null] [])) tg → Steps p.tables e below (s₁.setTop (entryFrame m #[(.int p1), (.int p2), .null] 3)) tg := fun tg k => castTop (ef_6n m p1 p2) k
  have st1 : ∀ tg, Steps p.tables e below (s₁.setTop (mkF m 17 #[.val (.int p1), .val (.int p2), .val .null] [(.int p1)])) tg → Steps p.tables e below (s₁.setTop (mkF m 0 #[.val (.int p1), .val (.int p2), .val .null] [])) tg := by
    intro tg kt
    refine XS.iloadN X0.here hx rfl (hb hby d6_0) rfl ?_
    refine XS.ifNo X0.here hx rfl (hb hby d6_1) rfl (XT.i0_lt_f hlo) ?_
    refine XS.iloadN X0.here hx rfl (hb hby d6_4) rfl ?_
    refine XS.iloadN X0.here hx rfl (hb hby d6_5) rfl ?_
    show Steps p.tables e below (s₁.setTop (mkF m 6 #[.val (.int p1), .val (.int p2), .val .null] [(.int p2), (.int p1)])) tg
    refine XS.icmpYes X0.here hx rfl (pc0 := 6) (pc' := 16) rfl (hb hby d6_6) rfl (XT.ii_lt_t hhi) (by decide) (by decide) ?_
    refine XS.iloadN X0.here hx rfl (hb hby d6_16) rfl ?_
    exact kt
  obtain ⟨fs, hr, hrun, hended, hW, hsame⟩ := X0.leave (v := some (.int p1)) (fun h => by rw [Bd.returns] at h; cases h)
  refine ⟨_, _, pre0 _ ?_, hrun, hended, _, _, rfl, ?_, ⟨_, rfl⟩, hW, hsame.mono (by decide) (by decide)⟩
  · refine st1 _ ?_
    show Steps p.tables e below (s₁.setTop (mkF m 17 #[.val (.int p1), .val (.int p2), .val .null] [(.int p1)])) _
    exact retI X0 hx Bd.returns (hb hby d6_17) hr
  · show Q6n Z p1 p2 h0 n0 _ s₁.heap _
    rw [e0]
    exact ⟨rfl, N0, rfl⟩
theorem ef_5n (m : MethodId) (p1 : Int32) (p2 : Int32) : entryFrame m #[(.int p1), (.int p2)] 2 = mkF m 0 #[.val (.int p1), .val (.int p2)] [] := by first | (simp [entryFrame, mkF, argsToLocals, Value.category]; done) | rfl
def Q5n (Z : State) (p1 : Int32) (p2 : Int32) (h0 : Heap) (n0 : Nat) (v : Option Value) (h : Heap) (L : List Loc) : Prop := v = none ∧ Fr n0 L ∧ h = h0
set_option maxRecDepth 65536 in
set_option maxHeartbeats 40000000 in
theorem rm5n (l : Launch) (Z : State) (a0 : Array Value) (hw : ∀ d ∈ tables_1, d.before a0 Z = true) (ws : List Jvm.Cond) (p1 : Int32) (p2 : Int32) (h0 : Heap) (n0 : Nat) (Z0 : n0 ≤ h0.size) (OLD : Old Z n0 h0) (S_f : Sta Z Z.heap "jdk/internal/util/Preconditions" "SIOOBE_FORMATTER" "Ljava/util/function/BiFunction;" .null) (hlo : ¬ (p1 < 0)) (hhi : p1 < p2) :
    MetFree l (⟨"java/lang/String", "checkIndex", "(II)V"⟩ : MethodName) (head1 (Jvm.Cond.code (⟨"java/lang/String", "checkIndex", "(II)V"⟩ : MethodName) jdk_42_method_155_code 2 none :: ws) ({ frames := 1, cells := 0, slots := 0, locals := 14 } : Room)) (fun a U => a = #[(.int p1), (.int p2)] ∧ Z.Warmed39 U.vm ∧ U.heap = h0) (fun _ _ _ _ _ => True) (fun _ U oo U' => ∃ v L, oo = .returned v ∧ Q5n Z p1 p2 h0 n0 v U'.heap L ∧ FrameEnd U oo U' L ({ frames := 1, cells := 0, slots := 0, locals := 14 } : Room).cells ({ frames := 1, cells := 0, slots := 0, locals := 14 } : Room).slots) := by
  refine MetFree.of_bodySF (plainFor_of_name pn_5) hisR ?_
  intro p e s m args below meth c s₁ Bd hml0 hP hK
  obtain ⟨rfl, hZ, hh⟩ := hP
  have hx := Bd.exec
  have hby := Bd.bytes
  have hml : c.maxLocals = 2 := hml0
  have hown : s.vm.findClass "java/lang/String" = some m.cls := findClass_of_methodNamed Bd.named
  have hnm := (name_of_methodNamed Bd.named Bd.method).1
  have X0 : Stand p l e ({ frames := 1, cells := 0, slots := 0, locals := 14 } : Room) s m #[(.int p1), (.int p2)] below meth c s₁ [] 0 0 := Stand.of_body Bd
  have e0 : s₁.heap = h0 := by rw [← hh, Bd.state]; rfl
  have N0 := Fr.nil n0
  have K0 : Keep h0 h0 [] := Keep.refl _ _
  have pre0 : ∀ tg, Steps p.tables e below (s₁.setTop (mkF m 0 #[.val (.int p1), .val (.int p2)] [])) tg → Steps p.tables e below (s₁.setTop (entryFrame m #[(.int p1), (.int p2)] 2)) tg := fun tg k => castTop (ef_5n m p1 p2) k
  have st1 : ∀ tg, Steps p.tables e below (s₁.setTop (mkF m 2 #[.val (.int p1), .val (.int p2)] [(.int p2), (.int p1)])) tg → Steps p.tables e below (s₁.setTop (mkF m 0 #[.val (.int p1), .val (.int p2)] [])) tg := by
    intro tg kt
    refine XS.iloadN X0.here hx rfl (hb hby d5_0) rfl ?_
    refine XS.iloadN X0.here hx rfl (hb hby d5_1) rfl ?_
    exact kt
  obtain ⟨T2, X2, e2, st2⟩ := getS2 X0 hx hZ hown (host := "") (Or.inl (hw _ (List.mem_of_getElem? (i := 35) rfl))) Via.refl e0 (Sta.ext OLD.2 S_f) (g := (mkF m 2 #[.val (.int p1), .val (.int p2)] [(.int p2), (.int p1)])) rfl (hb hby d5_2)
  obtain ⟨_, _, ⟨T3, L3, k3, n3⟩, -, X3, ⟨Lc3, hQ3, l3, y3, z3⟩, st3⟩ := Jvm.LawKit.callS X2 hx (y := (⟨"jdk/internal/util/Preconditions", "checkIndex", "(IILjava/util/function/BiFunction;)I"⟩ : MethodName)) hown (mvT hZ (hw _ (List.mem_of_getElem? (i := 37) rfl))) (mvT hZ (hw _ (List.mem_of_getElem? (i := 38) rfl))) (mvT hZ (hw _ (List.mem_of_getElem? (i := 36) rfl))) (mvT hZ (hw _ (List.mem_of_getElem? (i := 39) rfl))) (by decide) (backOf (W := 0) (rm6n l Z a0 hw [] p1 p2 h0 n0 Z0 hlo hhi) hZ (hw _ (List.mem_of_getElem? (i := 39) rfl)) (hw _ (List.mem_of_getElem? (i := 36) rfl)) (by decide) (by decide)) (g := (mkF m 5 #[.val (.int p1), .val (.int p2)] [.null, (.int p2), (.int p1)])) rfl (by rw [hml]; rfl) (argsL := [(.int p1), (.int p2), .null]) (rest := []) (lenOf pd_0 rfl) rfl (by show 2 * 0 + _ ≤ _; exact Nat.le_of_eq rfl) (hb hby d5_5) (fun _ _ => ⟨rfl, e2, (by decide : 0 + 0 ≤ _), (by decide : 0 + 0 ≤ _)⟩)
  dsimp only [Pt.U, Pt.locs, Pt.cells, Pt.slots] at X3 l3 y3 z3 st3 hQ3
  subst l3 y3 z3
  obtain ⟨rfl, N3q, e3⟩ := hQ3
  have N3 := Fr.app N0 N3q
  obtain ⟨r3, hr3⟩ : ∃ z, z = rv6n p1 p2 := ⟨_, rfl⟩
  rw [← hr3] at st3
  have st4 : ∀ tg, Steps p.tables e below (T3.setTop (mkF m 9 #[.val (.int p1), .val (.int p2)] [])) tg → Steps p.tables e below (T3.setTop (mkF m 8 #[.val (.int p1), .val (.int p2)] [(.int r3)])) tg := by
    intro tg kt
    refine XS.pop X3.here hx rfl (hb hby d5_8) rfl rfl ?_
    exact kt
  obtain ⟨fs, hr, hrun, hended, hW, hsame⟩ := X3.leave (v := none) (fun _ => rfl)
  refine ⟨_, _, pre0 _ ?_, hrun, hended, _, _, rfl, ?_, ⟨_, rfl⟩, hW, hsame.mono (by decide) (by decide)⟩
  · refine st1 _ ?_
    show Steps p.tables e below (s₁.setTop (mkF m 2 #[.val (.int p1), .val (.int p2)] [(.int p2), (.int p1)])) _
    refine st2 _ ?_
    show Steps p.tables e below (T2.setTop (mkF m 5 #[.val (.int p1), .val (.int p2)] [.null, (.int p2), (.int p1)])) _
    refine st3 _ ?_
    refine st4 _ ?_
    show Steps p.tables e below (T3.setTop (mkF m 9 #[.val (.int p1), .val (.int p2)] [])) _
    exact X3.returnOut hx Bd.returns (hb hby d5_9) hr
  · show Q5n Z p1 p2 h0 n0 _ T3.heap _
    rw [e3]
    exact ⟨rfl, N3, rfl⟩
def Q5c (Z : State) (p1 p2 : Int32) (fm : Value) (h0 : Heap) (n0 : Nat) (v : Option Value) (h : Heap) (L : List Loc) : Prop := v = none ∧ Fr n0 L ∧ h = h0
theorem rm5c (l : Launch) (Z : State) (a0 : Array Value) (hw : ∀ d ∈ tables_1, d.before a0 Z = true) (ws : List Jvm.Cond) (p1 p2 : Int32) (fm : Value) (h0 : Heap) (n0 : Nat) (Z0 : n0 ≤ h0.size) (OLD : Old Z n0 h0) (hfm : fm.isRef = true) (S_f : Sta Z Z.heap "jdk/internal/util/Preconditions" "SIOOBE_FORMATTER" "Ljava/util/function/BiFunction;" fm) (hlo : ¬ (p1 < 0)) (hhi : p1 < p2) :
    MetFree l (⟨"java/lang/String", "checkIndex", "(II)V"⟩ : MethodName) (head1 (Jvm.Cond.code (⟨"java/lang/String", "checkIndex", "(II)V"⟩ : MethodName) jdk_42_method_155_code 2 none :: ws) ({ frames := 1, cells := 0, slots := 0, locals := 14 } : Room)) (fun a U => a = #[(.int p1), (.int p2)] ∧ Z.Warmed39 U.vm ∧ U.heap = h0) (fun _ _ _ _ _ => True) (fun _ U oo U' => ∃ v L, oo = .returned v ∧ Q5c Z p1 p2 fm h0 n0 v U'.heap L ∧ FrameEnd U oo U' L ({ frames := 1, cells := 0, slots := 0, locals := 14 } : Room).cells ({ frames := 1, cells := 0, slots := 0, locals := 14 } : Room).slots) := by
  rcases ref_cases hfm with rfl | ⟨fa, rfl⟩
  · exact rm5n l Z a0 hw ws p1 p2 h0 n0 Z0 OLD S_f hlo hhi
  · exact rm5 l Z a0 hw ws p1 p2 fa h0 n0 Z0 OLD S_f hlo hhi
theorem d17_0 : decode jdk_43_method_4_code 0 = .ok (.iload_n 0, 1) := by decide +kernel
theorem d17_1 : decode jdk_43_method_4_code 1 = .ok (.ifCond .lt 14, 3) := by decide +kernel
theorem d17_4 : decode jdk_43_method_4_code 4 = .ok (.iload_n 0, 1) := by decide +kernel
theorem d17_5 : decode jdk_43_method_4_code 5 = .ok (.sipush 255, 3) := by decide +kernel
theorem d17_8 : decode jdk_43_method_4_code 8 = .ok (.if_icmp .gt 7, 3) := by decide +kernel
theorem d17_11 : decode jdk_43_method_4_code 11 = .ok (.iconst 1, 1) := by decide +kernel
theorem d17_12 : decode jdk_43_method_4_code 12 = .ok (.goto 4, 3) := by decide +kernel
theorem d17_16 : decode jdk_43_method_4_code 16 = .ok (.ireturn, 1) := by decide +kernel
theorem pn_17 : plainName "java/lang/StringLatin1" = true := by first | (simp [plainName, overriddenIn]; done) | decide +kernel
theorem ef_17 (m : MethodId) : entryFrame m #[(.int (37 : Int32))] 1 = mkF m 0 #[.val (.int (37 : Int32))] [] := by first | (simp [entryFrame, mkF, argsToLocals, Value.category]; done) | rfl
def Q17 (Z : State)  (h0 : Heap) (n0 : Nat) (v : Option Value) (h : Heap) (L : List Loc) : Prop := v = some (.int (1 : Int32)) ∧ Fr n0 L ∧ h = h0
set_option maxRecDepth 65536 in
set_option maxHeartbeats 40000000 in
theorem rm17 (l : Launch) (Z : State) (a0 : Array Value) (hw : ∀ d ∈ tables_1, d.before a0 Z = true) (ws : List Jvm.Cond)  (h0 : Heap) (n0 : Nat) (Z0 : n0 ≤ h0.size) :
    MetFree l (⟨"java/lang/StringLatin1", "canEncode", "(I)Z"⟩ : MethodName) (head1 (Jvm.Cond.code (⟨"java/lang/StringLatin1", "canEncode", "(I)Z"⟩ : MethodName) jdk_43_method_4_code 1 (some .boolean) :: ws) ({ frames := 0, cells := 0, slots := 0, locals := 0 } : Room)) (fun a U => a = #[(.int (37 : Int32))] ∧ Z.Warmed39 U.vm ∧ U.heap = h0) (fun _ _ _ _ _ => True) (fun _ U oo U' => ∃ v L, oo = .returned v ∧ Q17 Z  h0 n0 v U'.heap L ∧ FrameEnd U oo U' L ({ frames := 0, cells := 0, slots := 0, locals := 0 } : Room).cells ({ frames := 0, cells := 0, slots := 0, locals := 0 } : Room).slots) := by
  refine MetFree.of_bodySF (plainFor_of_name pn_17) hisR ?_
  intro p e s m args below meth c s₁ Bd hml0 hP hK
  obtain ⟨rfl, hZ, hh⟩ := hP
  have hx := Bd.exec
  have hby := Bd.bytes
  have hml : c.maxLocals = 1 := hml0
  have hown : s.vm.findClass "java/lang/StringLatin1" = some m.cls := findClass_of_methodNamed Bd.named
  have hnm := (name_of_methodNamed Bd.named Bd.method).1
  have X0 : Stand p l e ({ frames := 0, cells := 0, slots := 0, locals := 0 } : Room) s m #[(.int (37 : Int32))] below meth c s₁ [] 0 0 := Stand.of_body Bd
  have e0 : s₁.heap = h0 := by rw [← hh, Bd.state]; rfl
  have N0 := Fr.nil n0
  have K0 : Keep h0 h0 [] := Keep.refl _ _
  have pre0 : ∀ tg, Steps p.tables e below (s₁.setTop (mkF m 0 #[.val (.int (37 : Int32))] [])) tg → Steps p.tables e below (s₁.setTop (entryFrame m #[(.int (37 : Int32))] 1)) tg := fun tg k => castTop (ef_17 m) k
  have st1 : ∀ tg, Steps p.tables e below (s₁.setTop (mkF m 16 #[.val (.int (37 : Int32))] [(.int (1 : Int32))])) tg → Steps p.tables e below (s₁.setTop (mkF m 0 #[.val (.int (37 : Int32))] [])) tg := by
    intro tg kt
    refine XS.iloadN X0.here hx rfl (hb hby d17_0) rfl ?_
    refine XS.ifNo X0.here hx rfl (hb hby d17_1) rfl (XT.i0_lt_f (by decide)) ?_
    refine XS.iloadN X0.here hx rfl (hb hby d17_4) rfl ?_
    refine XS.sipush X0.here hx rfl (hb hby d17_5) ?_
    show Steps p.tables e below (s₁.setTop (mkF m 8 #[.val (.int (37 : Int32))] [(.int (255 : Int32)), (.int (37 : Int32))])) tg
    refine XS.icmpNo X0.here hx rfl (hb hby d17_8) rfl (XT.ii_gt_f (by decide)) ?_
    refine XS.iconst X0.here hx rfl (hb hby d17_11) ?_
    refine XS.goto X0.here hx rfl (pc0 := 12) (pc' := 16) rfl (hb hby d17_12) (by decide) (by decide) ?_
    exact kt
  obtain ⟨fs, hr, hrun, hended, hW, hsame⟩ := X0.leave (v := some (.int (1 : Int32))) (fun h => by rw [Bd.returns] at h; cases h)
  refine ⟨_, _, pre0 _ ?_, hrun, hended, _, _, rfl, ?_, ⟨_, rfl⟩, hW, hsame.mono (by decide) (by decide)⟩
  · refine st1 _ ?_
    show Steps p.tables e below (s₁.setTop (mkF m 16 #[.val (.int (37 : Int32))] [(.int (1 : Int32))])) _
    exact retN X0 hx (t := .boolean) Bd.returns (by simp) (hb hby d17_16) hr
  · show Q17 Z  h0 n0 _ s₁.heap _
    rw [e0]
    refine ⟨?_, N0, rfl⟩
    exact congrArg (fun z => some (Value.int z)) (rfl)
theorem d36_0 : decode jdk_41_method_12_code 0 = .ok (.iload_n 0, 1) := by decide +kernel
theorem d36_1 : decode jdk_41_method_12_code 1 = .ok (.ifCond .lt 13, 3) := by decide +kernel
theorem d36_4 : decode jdk_41_method_12_code 4 = .ok (.iload_n 0, 1) := by decide +kernel
theorem d36_5 : decode jdk_41_method_12_code 5 = .ok (.iload_n 1, 1) := by decide +kernel
theorem d36_6 : decode jdk_41_method_12_code 6 = .ok (.if_icmp .gt 8, 3) := by decide +kernel
theorem d36_9 : decode jdk_41_method_12_code 9 = .ok (.iload_n 1, 1) := by decide +kernel
theorem d36_10 : decode jdk_41_method_12_code 10 = .ok (.iload_n 2, 1) := by decide +kernel
theorem d36_11 : decode jdk_41_method_12_code 11 = .ok (.if_icmp .le 11, 3) := by decide +kernel
theorem d36_22 : decode jdk_41_method_12_code 22 = .ok (.iload_n 0, 1) := by decide +kernel
theorem d36_23 : decode jdk_41_method_12_code 23 = .ok (.ireturn, 1) := by decide +kernel
theorem pn_36 : plainName "jdk/internal/util/Preconditions" = true := by first | (simp [plainName, overriddenIn]; done) | decide +kernel
theorem ef_36 (m : MethodId) (p1 : Int32) (p2 : Int32) (p3 : Int32) (a4 : Addr) : entryFrame m #[(.int p1), (.int p2), (.int p3), (.ref a4)] 4 = mkF m 0 #[.val (.int p1), .val (.int p2), .val (.int p3), .val (.ref a4)] [] := by first | (simp [entryFrame, mkF, argsToLocals, Value.category]; done) | rfl
def Q36 (Z : State) (p1 : Int32) (p2 : Int32) (p3 : Int32) (a4 : Addr) (h0 : Heap) (n0 : Nat) (v : Option Value) (h : Heap) (L : List Loc) : Prop := v = some (.int p1) ∧ Fr n0 L ∧ h = h0
set_option maxRecDepth 65536 in
set_option maxHeartbeats 40000000 in
theorem rm36 (l : Launch) (Z : State) (a0 : Array Value) (hw : ∀ d ∈ tables_1, d.before a0 Z = true) (ws : List Jvm.Cond) (p1 : Int32) (p2 : Int32) (p3 : Int32) (a4 : Addr) (h0 : Heap) (n0 : Nat) (Z0 : n0 ≤ h0.size) (hlo : ¬ (p1 < 0)) (hmi : ¬ (p2 < p1)) (hhi : ¬ (p3 < p2)) :
    MetFree l (⟨"jdk/internal/util/Preconditions", "checkFromToIndex", "(IIILjava/util/function/BiFunction;)I"⟩ : MethodName) (head1 (Jvm.Cond.code (⟨"jdk/internal/util/Preconditions", "checkFromToIndex", "(IIILjava/util/function/BiFunction;)I"⟩ : MethodName) jdk_41_method_12_code 4 (some .int) :: ws) ({ frames := 0, cells := 0, slots := 0, locals := 0 } : Room)) (fun a U => a = #[(.int p1), (.int p2), (.int p3), (.ref a4)] ∧ Z.Warmed39 U.vm ∧ U.heap = h0) (fun _ _ _ _ _ => True) (fun _ U oo U' => ∃ v L, oo = .returned v ∧ Q36 Z p1 p2 p3 a4 h0 n0 v U'.heap L ∧ FrameEnd U oo U' L ({ frames := 0, cells := 0, slots := 0, locals := 0 } : Room).cells ({ frames := 0, cells := 0, slots := 0, locals := 0 } : Room).slots) := by
  refine MetFree.of_bodySF (plainFor_of_name pn_36) hisR ?_
  intro p e s m args below meth c s₁ Bd hml0 hP hK
  obtain ⟨rfl, hZ, hh⟩ := hP
  have hx := Bd.exec
  have hby := Bd.bytes
  have hml : c.maxLocals = 4 := hml0
  have hown : s.vm.findClass "jdk/internal/util/Preconditions" = some m.cls := findClass_of_methodNamed Bd.named
  have hnm := (name_of_methodNamed Bd.named Bd.method).1
  have X0 : Stand p l e ({ frames := 0, cells := 0, slots := 0, locals := 0 } : Room) s m #[(.int p1), (.int p2), (.int p3), (.ref a4)] below meth c s₁ [] 0 0 := Stand.of_body Bd
  have e0 : s₁.heap = h0 := by rw [← hh, Bd.state]; rfl
  have N0 := Fr.nil n0
  have K0 : Keep h0 h0 [] := Keep.refl _ _
  have pre0 : ∀ tg, Steps p.tables e below (s₁.setTop (mkF m 0 #[.val (.int p1), .val (.int p2), .val (.int p3), .val (.ref a4)] [])) tg → Steps p.tables e below (s₁.setTop (entryFrame m #[(.int p1), (.int p2), (.int p3), (.ref a4)] 4)) tg := fun tg k => castTop (ef_36 m p1 p2 p3 a4) k
  have st1 : ∀ tg, Steps p.tables e below (s₁.setTop (mkF m 23 #[.val (.int p1), .val (.int p2), .val (.int p3), .val (.ref a4)] [(.int p1)])) tg → Steps p.tables e below (s₁.setTop (mkF m 0 #[.val (.int p1), .val (.int p2), .val (.int p3), .val (.ref a4)] [])) tg := by
    intro tg kt
    refine XS.iloadN X0.here hx rfl (hb hby d36_0) rfl ?_
    refine XS.ifNo X0.here hx rfl (hb hby d36_1) rfl (XT.i0_lt_f hlo) ?_
    refine XS.iloadN X0.here hx rfl (hb hby d36_4) rfl ?_
    refine XS.iloadN X0.here hx rfl (hb hby d36_5) rfl ?_
    show Steps p.tables e below (s₁.setTop (mkF m 6 #[.val (.int p1), .val (.int p2), .val (.int p3), .val (.ref a4)] [(.int p2), (.int p1)])) tg
    refine XS.icmpNo X0.here hx rfl (hb hby d36_6) rfl (XT.ii_gt_f hmi) ?_
    refine XS.iloadN X0.here hx rfl (hb hby d36_9) rfl ?_
    refine XS.iloadN X0.here hx rfl (hb hby d36_10) rfl ?_
    refine XS.icmpYes X0.here hx rfl (pc0 := 11) (pc' := 22) rfl (hb hby d36_11) rfl (XT.ii_le_t hhi) (by decide) (by decide) ?_
    show Steps p.tables e below (s₁.setTop (mkF m 22 #[.val (.int p1), .val (.int p2), .val (.int p3), .val (.ref a4)] [])) tg
    refine XS.iloadN X0.here hx rfl (hb hby d36_22) rfl ?_
    exact kt
  obtain ⟨fs, hr, hrun, hended, hW, hsame⟩ := X0.leave (v := some (.int p1)) (fun h => by rw [Bd.returns] at h; cases h)
  refine ⟨_, _, pre0 _ ?_, hrun, hended, _, _, rfl, ?_, ⟨_, rfl⟩, hW, hsame.mono (by decide) (by decide)⟩
  · refine st1 _ ?_
    show Steps p.tables e below (s₁.setTop (mkF m 23 #[.val (.int p1), .val (.int p2), .val (.int p3), .val (.ref a4)] [(.int p1)])) _
    exact retI X0 hx Bd.returns (hb hby d36_23) hr
  · show Q36 Z p1 p2 p3 a4 h0 n0 _ s₁.heap _
    rw [e0]
    exact ⟨rfl, N0, rfl⟩
theorem d35_0 : decode jdk_42_method_158_code 0 = .ok (.iload_n 0, 1) := by decide +kernel
theorem d35_1 : decode jdk_42_method_158_code 1 = .ok (.iload_n 1, 1) := by decide +kernel
theorem d35_2 : decode jdk_42_method_158_code 2 = .ok (.iload_n 2, 1) := by decide +kernel
theorem d35_3 : decode jdk_42_method_158_code 3 = .ok (.getstatic 1053, 3) := by decide +kernel
theorem d35_6 : decode jdk_42_method_158_code 6 = .ok (.invokestatic 1062, 3) := by decide +kernel
theorem d35_9 : decode jdk_42_method_158_code 9 = .ok (.pop, 1) := by decide +kernel
theorem d35_10 : decode jdk_42_method_158_code 10 = .ok (.return_, 1) := by decide +kernel
theorem pn_35 : plainName "java/lang/String" = true := by first | (simp [plainName, overriddenIn]; done) | decide +kernel
theorem ef_35 (m : MethodId) (p1 : Int32) (p2 : Int32) (p3 : Int32) : entryFrame m #[(.int p1), (.int p2), (.int p3)] 3 = mkF m 0 #[.val (.int p1), .val (.int p2), .val (.int p3)] [] := by first | (simp [entryFrame, mkF, argsToLocals, Value.category]; done) | rfl
def Q35 (Z : State) (p1 : Int32) (p2 : Int32) (p3 : Int32) (fa : Addr) (h0 : Heap) (n0 : Nat) (v : Option Value) (h : Heap) (L : List Loc) : Prop := v = none ∧ Fr n0 L ∧ h = h0
set_option maxRecDepth 65536 in
set_option maxHeartbeats 40000000 in
theorem rm35 (l : Launch) (Z : State) (a0 : Array Value) (hw : ∀ d ∈ tables_1, d.before a0 Z = true) (ws : List Jvm.Cond) (p1 : Int32) (p2 : Int32) (p3 : Int32) (fa : Addr) (h0 : Heap) (n0 : Nat) (Z0 : n0 ≤ h0.size) (OLD : Old Z n0 h0) (S_f : Sta Z Z.heap "jdk/internal/util/Preconditions" "SIOOBE_FORMATTER" "Ljava/util/function/BiFunction;" (.ref fa)) (hlo : ¬ (p1 < 0)) (hmi : ¬ (p2 < p1)) (hhi : ¬ (p3 < p2)) :
    MetFree l (⟨"java/lang/String", "checkBoundsBeginEnd", "(III)V"⟩ : MethodName) (head1 (Jvm.Cond.code (⟨"java/lang/String", "checkBoundsBeginEnd", "(III)V"⟩ : MethodName) jdk_42_method_158_code 3 none :: ws) ({ frames := 1, cells := 0, slots := 0, locals := 15 } : Room)) (fun a U => a = #[(.int p1), (.int p2), (.int p3)] ∧ Z.Warmed39 U.vm ∧ U.heap = h0) (fun _ _ _ _ _ => True) (fun _ U oo U' => ∃ v L, oo = .returned v ∧ Q35 Z p1 p2 p3 fa h0 n0 v U'.heap L ∧ FrameEnd U oo U' L ({ frames := 1, cells := 0, slots := 0, locals := 15 } : Room).cells ({ frames := 1, cells := 0, slots := 0, locals := 15 } : Room).slots) := by
  refine MetFree.of_bodySF (plainFor_of_name pn_35) hisR ?_
  intro p e s m args below meth c s₁ Bd hml0 hP hK
  obtain ⟨rfl, hZ, hh⟩ := hP
  have hx := Bd.exec
  have hby := Bd.bytes
  have hml : c.maxLocals = 3 := hml0
  have hown : s.vm.findClass "java/lang/String" = some m.cls := findClass_of_methodNamed Bd.named
  have hnm := (name_of_methodNamed Bd.named Bd.method).1
  have X0 : Stand p l e ({ frames := 1, cells := 0, slots := 0, locals := 15 } : Room) s m #[(.int p1), (.int p2), (.int p3)] below meth c s₁ [] 0 0 := Stand.of_body Bd
  have e0 : s₁.heap = h0 := by rw [← hh, Bd.state]; rfl
  have N0 := Fr.nil n0
  have K0 : Keep h0 h0 [] := Keep.refl _ _
  have pre0 : ∀ tg, Steps p.tables e below (s₁.setTop (mkF m 0 #[.val (.int p1), .val (.int p2), .val (.int p3)] [])) tg → Steps p.tables e below (s₁.setTop (entryFrame m #[(.int p1), (.int p2), (.int p3)] 3)) tg := fun tg k => castTop (ef_35 m p1 p2 p3) k
  have st1 : ∀ tg, Steps p.tables e below (s₁.setTop (mkF m 3 #[.val (.int p1), .val (.int p2), .val (.int p3)] [(.int p3), (.int p2), (.int p1)])) tg → Steps p.tables e below (s₁.setTop (mkF m 0 #[.val (.int p1), .val (.int p2), .val (.int p3)] [])) tg := by
    intro tg kt
    refine XS.iloadN X0.here hx rfl (hb hby d35_0) rfl ?_
    refine XS.iloadN X0.here hx rfl (hb hby d35_1) rfl ?_
    refine XS.iloadN X0.here hx rfl (hb hby d35_2) rfl ?_
    exact kt
  obtain ⟨T2, X2, e2, st2⟩ := getS2 X0 hx hZ hown (host := "") (Or.inl (hw _ (List.mem_of_getElem? (i := 35) rfl))) Via.refl e0 (Sta.ext OLD.2 S_f) (g := (mkF m 3 #[.val (.int p1), .val (.int p2), .val (.int p3)] [(.int p3), (.int p2), (.int p1)])) rfl (hb hby d35_3)
  obtain ⟨_, _, ⟨T3, L3, k3, n3⟩, -, X3, ⟨Lc3, hQ3, l3, y3, z3⟩, st3⟩ := Jvm.LawKit.callS X2 hx (y := (⟨"jdk/internal/util/Preconditions", "checkFromToIndex", "(IIILjava/util/function/BiFunction;)I"⟩ : MethodName)) hown (mvT hZ (hw _ (List.mem_of_getElem? (i := 150) rfl))) (mvT hZ (hw _ (List.mem_of_getElem? (i := 151) rfl))) (mvT hZ (hw _ (List.mem_of_getElem? (i := 36) rfl))) (mvT hZ (hw _ (List.mem_of_getElem? (i := 152) rfl))) (by decide) (backOf (W := 0) (rm36 l Z a0 hw [] p1 p2 p3 fa h0 n0 Z0 hlo hmi hhi) hZ (hw _ (List.mem_of_getElem? (i := 152) rfl)) (hw _ (List.mem_of_getElem? (i := 36) rfl)) (by decide) (by decide)) (g := (mkF m 6 #[.val (.int p1), .val (.int p2), .val (.int p3)] [(.ref fa), (.int p3), (.int p2), (.int p1)])) rfl (by rw [hml]; rfl) (argsL := [(.int p1), (.int p2), (.int p3), (.ref fa)]) (rest := []) (lenOf pd_1 rfl) rfl (by show 2 * 0 + _ ≤ _; exact Nat.le_of_eq rfl) (hb hby d35_6) (fun _ _ => ⟨rfl, e2, (by decide : 0 + 0 ≤ _), (by decide : 0 + 0 ≤ _)⟩)
  dsimp only [Pt.U, Pt.locs, Pt.cells, Pt.slots] at X3 l3 y3 z3 st3 hQ3
  subst l3 y3 z3
  obtain ⟨rfl, N3q, e3⟩ := hQ3
  have N3 := Fr.app N0 N3q
  have st4 : ∀ tg, Steps p.tables e below (T3.setTop (mkF m 10 #[.val (.int p1), .val (.int p2), .val (.int p3)] [])) tg → Steps p.tables e below (T3.setTop (mkF m 9 #[.val (.int p1), .val (.int p2), .val (.int p3)] [(.int p1)])) tg := by
    intro tg kt
    refine XS.pop X3.here hx rfl (hb hby d35_9) rfl rfl ?_
    exact kt
  obtain ⟨fs, hr, hrun, hended, hW, hsame⟩ := X3.leave (v := none) (fun _ => rfl)
  refine ⟨_, _, pre0 _ ?_, hrun, hended, _, _, rfl, ?_, ⟨_, rfl⟩, hW, hsame.mono (by decide) (by decide)⟩
  · refine st1 _ ?_
    show Steps p.tables e below (s₁.setTop (mkF m 3 #[.val (.int p1), .val (.int p2), .val (.int p3)] [(.int p3), (.int p2), (.int p1)])) _
    refine st2 _ ?_
    show Steps p.tables e below (T2.setTop (mkF m 6 #[.val (.int p1), .val (.int p2), .val (.int p3)] [(.ref fa), (.int p3), (.int p2), (.int p1)])) _
    refine st3 _ ?_
    refine st4 _ ?_
    show Steps p.tables e below (T3.setTop (mkF m 10 #[.val (.int p1), .val (.int p2), .val (.int p3)] [])) _
    exact X3.returnOut hx Bd.returns (hb hby d35_10) hr
  · show Q35 Z p1 p2 p3 fa h0 n0 _ T3.heap _
    rw [e3]
    exact ⟨rfl, N3, rfl⟩
theorem ef_36n (m : MethodId) (p1 : Int32) (p2 : Int32) (p3 : Int32) : entryFrame m #[(.int p1), (.int p2), (.int p3), .null] 4 = mkF m 0 #[.val (.int p1), .val (.int p2), .val (.int p3), .val .null] [] := by first | (simp [entryFrame, mkF, argsToLocals, Value.category]; done) | rfl
def Q36n (Z : State) (p1 : Int32) (p2 : Int32) (p3 : Int32) (h0 : Heap) (n0 : Nat) (v : Option Value) (h : Heap) (L : List Loc) : Prop := v = some (.int p1) ∧ Fr n0 L ∧ h = h0
set_option maxRecDepth 65536 in
set_option maxHeartbeats 40000000 in
theorem rm36n (l : Launch) (Z : State) (a0 : Array Value) (hw : ∀ d ∈ tables_1, d.before a0 Z = true) (ws : List Jvm.Cond) (p1 : Int32) (p2 : Int32) (p3 : Int32) (h0 : Heap) (n0 : Nat) (Z0 : n0 ≤ h0.size) (hlo : ¬ (p1 < 0)) (hmi : ¬ (p2 < p1)) (hhi : ¬ (p3 < p2)) :
    MetFree l (⟨"jdk/internal/util/Preconditions", "checkFromToIndex", "(IIILjava/util/function/BiFunction;)I"⟩ : MethodName) (head1 (Jvm.Cond.code (⟨"jdk/internal/util/Preconditions", "checkFromToIndex", "(IIILjava/util/function/BiFunction;)I"⟩ : MethodName) jdk_41_method_12_code 4 (some .int) :: ws) ({ frames := 0, cells := 0, slots := 0, locals := 0 } : Room)) (fun a U => a = #[(.int p1), (.int p2), (.int p3), .null] ∧ Z.Warmed39 U.vm ∧ U.heap = h0) (fun _ _ _ _ _ => True) (fun _ U oo U' => ∃ v L, oo = .returned v ∧ Q36n Z p1 p2 p3 h0 n0 v U'.heap L ∧ FrameEnd U oo U' L ({ frames := 0, cells := 0, slots := 0, locals := 0 } : Room).cells ({ frames := 0, cells := 0, slots := 0, locals := 0 } : Room).slots) := by
  refine MetFree.of_bodySF (plainFor_of_name pn_36) hisR ?_
  intro p e s m args below meth c s₁ Bd hml0 hP hK
  obtain ⟨rfl, hZ, hh⟩ := hP
  have hx := Bd.exec
  have hby := Bd.bytes
  have hml : c.maxLocals = 4 := hml0
  have hown : s.vm.findClass "jdk/internal/util/Preconditions" = some m.cls := findClass_of_methodNamed Bd.named
  have hnm := (name_of_methodNamed Bd.named Bd.method).1
  have X0 : Stand p l e ({ frames := 0, cells := 0, slots := 0, locals := 0 } : Room) s m #[(.int p1), (.int p2), (.int p3), .null] below meth c s₁ [] 0 0 := Stand.of_body Bd
  have e0 : s₁.heap = h0 := by rw [← hh, Bd.state]; rfl
  have N0 := Fr.nil n0
  have K0 : Keep h0 h0 [] := Keep.refl _ _
  have pre0 : ∀ tg, Steps p.tables e below (s₁.setTop (mkF m 0 #[.val (.int p1), .val (.int p2), .val (.int p3), .val .null] [])) tg → Steps p.tables e below (s₁.setTop (entryFrame m #[(.int p1), (.int p2), (.int p3), .null] 4)) tg := fun tg k => castTop (ef_36n m p1 p2 p3) k
  have st1 : ∀ tg, Steps p.tables e below (s₁.setTop (mkF m 23 #[.val (.int p1), .val (.int p2), .val (.int p3), .val .null] [(.int p1)])) tg → Steps p.tables e below (s₁.setTop (mkF m 0 #[.val (.int p1), .val (.int p2), .val (.int p3), .val .null] [])) tg := by
    intro tg kt
    refine XS.iloadN X0.here hx rfl (hb hby d36_0) rfl ?_
    refine XS.ifNo X0.here hx rfl (hb hby d36_1) rfl (XT.i0_lt_f hlo) ?_
    refine XS.iloadN X0.here hx rfl (hb hby d36_4) rfl ?_
    refine XS.iloadN X0.here hx rfl (hb hby d36_5) rfl ?_
    show Steps p.tables e below (s₁.setTop (mkF m 6 #[.val (.int p1), .val (.int p2), .val (.int p3), .val .null] [(.int p2), (.int p1)])) tg
    refine XS.icmpNo X0.here hx rfl (hb hby d36_6) rfl (XT.ii_gt_f hmi) ?_
    refine XS.iloadN X0.here hx rfl (hb hby d36_9) rfl ?_
    refine XS.iloadN X0.here hx rfl (hb hby d36_10) rfl ?_
    refine XS.icmpYes X0.here hx rfl (pc0 := 11) (pc' := 22) rfl (hb hby d36_11) rfl (XT.ii_le_t hhi) (by decide) (by decide) ?_
    show Steps p.tables e below (s₁.setTop (mkF m 22 #[.val (.int p1), .val (.int p2), .val (.int p3), .val .null] [])) tg
    refine XS.iloadN X0.here hx rfl (hb hby d36_22) rfl ?_
    exact kt
  obtain ⟨fs, hr, hrun, hended, hW, hsame⟩ := X0.leave (v := some (.int p1)) (fun h => by rw [Bd.returns] at h; cases h)
  refine ⟨_, _, pre0 _ ?_, hrun, hended, _, _, rfl, ?_, ⟨_, rfl⟩, hW, hsame.mono (by decide) (by decide)⟩
  · refine st1 _ ?_
    show Steps p.tables e below (s₁.setTop (mkF m 23 #[.val (.int p1), .val (.int p2), .val (.int p3), .val .null] [(.int p1)])) _
    exact retI X0 hx Bd.returns (hb hby d36_23) hr
  · show Q36n Z p1 p2 p3 h0 n0 _ s₁.heap _
    rw [e0]
    exact ⟨rfl, N0, rfl⟩
theorem ef_35n (m : MethodId) (p1 : Int32) (p2 : Int32) (p3 : Int32) : entryFrame m #[(.int p1), (.int p2), (.int p3)] 3 = mkF m 0 #[.val (.int p1), .val (.int p2), .val (.int p3)] [] := by first | (simp [entryFrame, mkF, argsToLocals, Value.category]; done) | rfl
def Q35n (Z : State) (p1 : Int32) (p2 : Int32) (p3 : Int32) (h0 : Heap) (n0 : Nat) (v : Option Value) (h : Heap) (L : List Loc) : Prop := v = none ∧ Fr n0 L ∧ h = h0
set_option maxRecDepth 65536 in
set_option maxHeartbeats 40000000 in
theorem rm35n (l : Launch) (Z : State) (a0 : Array Value) (hw : ∀ d ∈ tables_1, d.before a0 Z = true) (ws : List Jvm.Cond) (p1 : Int32) (p2 : Int32) (p3 : Int32) (h0 : Heap) (n0 : Nat) (Z0 : n0 ≤ h0.size) (OLD : Old Z n0 h0) (S_f : Sta Z Z.heap "jdk/internal/util/Preconditions" "SIOOBE_FORMATTER" "Ljava/util/function/BiFunction;" .null) (hlo : ¬ (p1 < 0)) (hmi : ¬ (p2 < p1)) (hhi : ¬ (p3 < p2)) :
    MetFree l (⟨"java/lang/String", "checkBoundsBeginEnd", "(III)V"⟩ : MethodName) (head1 (Jvm.Cond.code (⟨"java/lang/String", "checkBoundsBeginEnd", "(III)V"⟩ : MethodName) jdk_42_method_158_code 3 none :: ws) ({ frames := 1, cells := 0, slots := 0, locals := 15 } : Room)) (fun a U => a = #[(.int p1), (.int p2), (.int p3)] ∧ Z.Warmed39 U.vm ∧ U.heap = h0) (fun _ _ _ _ _ => True) (fun _ U oo U' => ∃ v L, oo = .returned v ∧ Q35n Z p1 p2 p3 h0 n0 v U'.heap L ∧ FrameEnd U oo U' L ({ frames := 1, cells := 0, slots := 0, locals := 15 } : Room).cells ({ frames := 1, cells := 0, slots := 0, locals := 15 } : Room).slots) := by
  refine MetFree.of_bodySF (plainFor_of_name pn_35) hisR ?_
  intro p e s m args below meth c s₁ Bd hml0 hP hK
  obtain ⟨rfl, hZ, hh⟩ := hP
  have hx := Bd.exec
  have hby := Bd.bytes
  have hml : c.maxLocals = 3 := hml0
  have hown : s.vm.findClass "java/lang/String" = some m.cls := findClass_of_methodNamed Bd.named
  have hnm := (name_of_methodNamed Bd.named Bd.method).1
  have X0 : Stand p l e ({ frames := 1, cells := 0, slots := 0, locals := 15 } : Room) s m #[(.int p1), (.int p2), (.int p3)] below meth c s₁ [] 0 0 := Stand.of_body Bd
  have e0 : s₁.heap = h0 := by rw [← hh, Bd.state]; rfl
  have N0 := Fr.nil n0
  have K0 : Keep h0 h0 [] := Keep.refl _ _
  have pre0 : ∀ tg, Steps p.tables e below (s₁.setTop (mkF m 0 #[.val (.int p1), .val (.int p2), .val (.int p3)] [])) tg → Steps p.tables e below (s₁.setTop (entryFrame m #[(.int p1), (.int p2), (.int p3)] 3)) tg := fun tg k => castTop (ef_35n m p1 p2 p3) k
  have st1 : ∀ tg, Steps p.tables e below (s₁.setTop (mkF m 3 #[.val (.int p1), .val (.int p2), .val (.int p3)] [(.int p3), (.int p2), (.int p1)])) tg → Steps p.tables e below (s₁.setTop (mkF m 0 #[.val (.int p1), .val (.int p2), .val (.int p3)] [])) tg := by
    intro tg kt
    refine XS.iloadN X0.here hx rfl (hb hby d35_0) rfl ?_
    refine XS.iloadN X0.here hx rfl (hb hby d35_1) rfl ?_
    refine XS.iloadN X0.here hx rfl (hb hby d35_2) rfl ?_
    exact kt
  obtain ⟨T2, X2, e2, st2⟩ := getS2 X0 hx hZ hown (host := "") (Or.inl (hw _ (List.mem_of_getElem? (i := 35) rfl))) Via.refl e0 (Sta.ext OLD.2 S_f) (g := (mkF m 3 #[.val (.int p1), .val (.int p2), .val (.int p3)] [(.int p3), (.int p2), (.int p1)])) rfl (hb hby d35_3)
  obtain ⟨_, _, ⟨T3, L3, k3, n3⟩, -, X3, ⟨Lc3, hQ3, l3, y3, z3⟩, st3⟩ := Jvm.LawKit.callS X2 hx (y := (⟨"jdk/internal/util/Preconditions", "checkFromToIndex", "(IIILjava/util/function/BiFunction;)I"⟩ : MethodName)) hown (mvT hZ (hw _ (List.mem_of_getElem? (i := 150) rfl))) (mvT hZ (hw _ (List.mem_of_getElem? (i := 151) rfl))) (mvT hZ (hw _ (List.mem_of_getElem? (i := 36) rfl))) (mvT hZ (hw _ (List.mem_of_getElem? (i := 152) rfl))) (by decide) (backOf (W := 0) (rm36n l Z a0 hw [] p1 p2 p3 h0 n0 Z0 hlo hmi hhi) hZ (hw _ (List.mem_of_getElem? (i := 152) rfl)) (hw _ (List.mem_of_getElem? (i := 36) rfl)) (by decide) (by decide)) (g := (mkF m 6 #[.val (.int p1), .val (.int p2), .val (.int p3)] [.null, (.int p3), (.int p2), (.int p1)])) rfl (by rw [hml]; rfl) (argsL := [(.int p1), (.int p2), (.int p3), .null]) (rest := []) (lenOf pd_1 rfl) rfl (by show 2 * 0 + _ ≤ _; exact Nat.le_of_eq rfl) (hb hby d35_6) (fun _ _ => ⟨rfl, e2, (by decide : 0 + 0 ≤ _), (by decide : 0 + 0 ≤ _)⟩)
  dsimp only [Pt.U, Pt.locs, Pt.cells, Pt.slots] at X3 l3 y3 z3 st3 hQ3
  subst l3 y3 z3
  obtain ⟨rfl, N3q, e3⟩ := hQ3
  have N3 := Fr.app N0 N3q
  have st4 : ∀ tg, Steps p.tables e below (T3.setTop (mkF m 10 #[.val (.int p1), .val (.int p2), .val (.int p3)] [])) tg → Steps p.tables e below (T3.setTop (mkF m 9 #[.val (.int p1), .val (.int p2), .val (.int p3)] [(.int p1)])) tg := by
    intro tg kt
    refine XS.pop X3.here hx rfl (hb hby d35_9) rfl rfl ?_
    exact kt
  obtain ⟨fs, hr, hrun, hended, hW, hsame⟩ := X3.leave (v := none) (fun _ => rfl)
  refine ⟨_, _, pre0 _ ?_, hrun, hended, _, _, rfl, ?_, ⟨_, rfl⟩, hW, hsame.mono (by decide) (by decide)⟩
  · refine st1 _ ?_
    show Steps p.tables e below (s₁.setTop (mkF m 3 #[.val (.int p1), .val (.int p2), .val (.int p3)] [(.int p3), (.int p2), (.int p1)])) _
    refine st2 _ ?_
    show Steps p.tables e below (T2.setTop (mkF m 6 #[.val (.int p1), .val (.int p2), .val (.int p3)] [.null, (.int p3), (.int p2), (.int p1)])) _
    refine st3 _ ?_
    refine st4 _ ?_
    show Steps p.tables e below (T3.setTop (mkF m 10 #[.val (.int p1), .val (.int p2), .val (.int p3)] [])) _
    exact X3.returnOut hx Bd.returns (hb hby d35_10) hr
  · show Q35n Z p1 p2 p3 h0 n0 _ T3.heap _
    rw [e3]
    exact ⟨rfl, N3, rfl⟩
def Q35c (Z : State) (p1 : Int32) (p2 : Int32) (p3 : Int32) (fm : Value) (h0 : Heap) (n0 : Nat) (v : Option Value) (h : Heap) (L : List Loc) : Prop := v = none ∧ Fr n0 L ∧ h = h0
theorem rm35c (l : Launch) (Z : State) (a0 : Array Value) (hw : ∀ d ∈ tables_1, d.before a0 Z = true) (ws : List Jvm.Cond) (p1 : Int32) (p2 : Int32) (p3 : Int32) (fm : Value) (h0 : Heap) (n0 : Nat) (Z0 : n0 ≤ h0.size) (OLD : Old Z n0 h0) (hfm : fm.isRef = true) (S_f : Sta Z Z.heap "jdk/internal/util/Preconditions" "SIOOBE_FORMATTER" "Ljava/util/function/BiFunction;" fm) (hlo : ¬ (p1 < 0)) (hmi : ¬ (p2 < p1)) (hhi : ¬ (p3 < p2)) :
    MetFree l (⟨"java/lang/String", "checkBoundsBeginEnd", "(III)V"⟩ : MethodName) (head1 (Jvm.Cond.code (⟨"java/lang/String", "checkBoundsBeginEnd", "(III)V"⟩ : MethodName) jdk_42_method_158_code 3 none :: ws) ({ frames := 1, cells := 0, slots := 0, locals := 15 } : Room)) (fun a U => a = #[(.int p1), (.int p2), (.int p3)] ∧ Z.Warmed39 U.vm ∧ U.heap = h0) (fun _ _ _ _ _ => True) (fun _ U oo U' => ∃ v L, oo = .returned v ∧ Q35c Z p1 p2 p3 fm h0 n0 v U'.heap L ∧ FrameEnd U oo U' L ({ frames := 1, cells := 0, slots := 0, locals := 15 } : Room).cells ({ frames := 1, cells := 0, slots := 0, locals := 15 } : Room).slots) := by
  rcases ref_cases hfm with rfl | ⟨fa, rfl⟩
  · exact rm35n l Z a0 hw ws p1 p2 p3 h0 n0 Z0 OLD S_f hlo hmi hhi
  · exact rm35 l Z a0 hw ws p1 p2 p3 fa h0 n0 Z0 OLD S_f hlo hmi hhi
theorem d15_0 : decode jdk_42_method_152_code 0 = .ok (.getstatic 38, 3) := by decide +kernel
theorem d15_3 : decode jdk_42_method_152_code 3 = .ok (.ifCond .eq 10, 3) := by decide +kernel
theorem d15_6 : decode jdk_42_method_152_code 6 = .ok (.aload_n 0, 1) := by decide +kernel
theorem d15_7 : decode jdk_42_method_152_code 7 = .ok (.getfield 15, 3) := by decide +kernel
theorem d15_10 : decode jdk_42_method_152_code 10 = .ok (.goto 4, 3) := by decide +kernel
theorem d15_14 : decode jdk_42_method_152_code 14 = .ok (.ireturn, 1) := by decide +kernel
theorem pn_15 : plainName "java/lang/String" = true := by first | (simp [plainName, overriddenIn]; done) | decide +kernel
theorem ef_15l (m : MethodId) (a1 : Addr) : entryFrame m #[(.ref a1)] 1 = mkF m 0 #[.val (.ref a1)] [] := by first | (simp [entryFrame, mkF, argsToLocals, Value.category]; done) | rfl
def Q15l (Z : State) (a1 : Addr) (wc : Int32) (h0 : Heap) (n0 : Nat) (v : Option Value) (h : Heap) (L : List Loc) : Prop := v = some (.int (0 : Int32)) ∧ Fr n0 L ∧ h = h0
set_option maxRecDepth 65536 in
set_option maxHeartbeats 40000000 in
theorem rm15l (l : Launch) (Z : State) (a0 : Array Value) (hw : ∀ d ∈ tables_1, d.before a0 Z = true) (ws : List Jvm.Cond) (a1 : Addr) (wc : Int32) (h0 : Heap) (n0 : Nat) (Z0 : n0 ≤ h0.size) (OLD : Old Z n0 h0) (S_c : Sta Z Z.heap "java/lang/String" "COMPACT_STRINGS" "Z" (.int wc)) (hwc : ¬ wc = 0) (FC : Fld Z h0 a1 "java/lang/String" "coder" "B" (.int (0 : Int32))) :
    MetFree l (⟨"java/lang/String", "coder", "()B"⟩ : MethodName) (head1 (Jvm.Cond.code (⟨"java/lang/String", "coder", "()B"⟩ : MethodName) jdk_42_method_152_code 1 (some .byte) :: ws) ({ frames := 0, cells := 0, slots := 0, locals := 0 } : Room)) (fun a U => a = #[(.ref a1)] ∧ Z.Warmed39 U.vm ∧ U.heap = h0) (fun _ _ _ _ _ => True) (fun _ U oo U' => ∃ v L, oo = .returned v ∧ Q15l Z a1 wc h0 n0 v U'.heap L ∧ FrameEnd U oo U' L ({ frames := 0, cells := 0, slots := 0, locals := 0 } : Room).cells ({ frames := 0, cells := 0, slots := 0, locals := 0 } : Room).slots) := by
  refine MetFree.of_bodySF (plainFor_of_name pn_15) hisR ?_
  intro p e s m args below meth c s₁ Bd hml0 hP hK
  obtain ⟨rfl, hZ, hh⟩ := hP
  have hx := Bd.exec
  have hby := Bd.bytes
  have hml : c.maxLocals = 1 := hml0
  have hown : s.vm.findClass "java/lang/String" = some m.cls := findClass_of_methodNamed Bd.named
  have hnm := (name_of_methodNamed Bd.named Bd.method).1
  have X0 : Stand p l e ({ frames := 0, cells := 0, slots := 0, locals := 0 } : Room) s m #[(.ref a1)] below meth c s₁ [] 0 0 := Stand.of_body Bd
  have e0 : s₁.heap = h0 := by rw [← hh, Bd.state]; rfl
  have N0 := Fr.nil n0
  have K0 : Keep h0 h0 [] := Keep.refl _ _
  have pre0 : ∀ tg, Steps p.tables e below (s₁.setTop (mkF m 0 #[.val (.ref a1)] [])) tg → Steps p.tables e below (s₁.setTop (entryFrame m #[(.ref a1)] 1)) tg := fun tg k => castTop (ef_15l m a1) k
  obtain ⟨T1, X1, e1, st1⟩ := getS2 X0 hx hZ hown (host := "") (Or.inl (hw _ (List.mem_of_getElem? (i := 25) rfl))) Via.refl e0 (Sta.ext OLD.2 S_c) (g := (mkF m 0 #[.val (.ref a1)] [])) rfl (hb hby d15_0)
  have st2 : ∀ tg, Steps p.tables e below (T1.setTop (mkF m 7 #[.val (.ref a1)] [(.ref a1)])) tg → Steps p.tables e below (T1.setTop (mkF m 3 #[.val (.ref a1)] [(.int wc)])) tg := by
    intro tg kt
    refine XS.ifNo X1.here hx rfl (hb hby d15_3) rfl (XT.i0_eq_f hwc) ?_
    refine XS.aloadN X1.here hx rfl (hb hby d15_6) rfl rfl ?_
    exact kt
  obtain ⟨T3, X3, e3, st3⟩ := getF X1 hx hZ hown (host := "") (Or.inl (hw _ (List.mem_of_getElem? (i := 26) rfl))) Via.refl e1 FC (g := (mkF m 7 #[.val (.ref a1)] [(.ref a1)])) rfl rfl (hb hby d15_7)
  have st4 : ∀ tg, Steps p.tables e below (T3.setTop (mkF m 14 #[.val (.ref a1)] [(.int (0 : Int32))])) tg → Steps p.tables e below (T3.setTop (mkF m 10 #[.val (.ref a1)] [(.int (0 : Int32))])) tg := by
    intro tg kt
    refine XS.goto X3.here hx rfl (pc0 := 10) (pc' := 14) rfl (hb hby d15_10) (by decide) (by decide) ?_
    exact kt
  obtain ⟨fs, hr, hrun, hended, hW, hsame⟩ := X3.leave (v := some (.int (0 : Int32))) (fun h => by rw [Bd.returns] at h; cases h)
  refine ⟨_, _, pre0 _ ?_, hrun, hended, _, _, rfl, ?_, ⟨_, rfl⟩, hW, hsame.mono (by decide) (by decide)⟩
  · show Steps p.tables e below (s₁.setTop (mkF m 0 #[.val (.ref a1)] [])) _
    refine st1 _ ?_
    refine st2 _ ?_
    show Steps p.tables e below (T1.setTop (mkF m 7 #[.val (.ref a1)] [(.ref a1)])) _
    refine st3 _ ?_
    refine st4 _ ?_
    show Steps p.tables e below (T3.setTop (mkF m 14 #[.val (.ref a1)] [(.int (0 : Int32))])) _
    exact retN X3 hx (t := .byte) Bd.returns (by simp) (hb hby d15_14) hr
  · show Q15l Z a1 wc h0 n0 _ T3.heap _
    rw [e3]
    refine ⟨?_, N0, rfl⟩
    exact congrArg (fun z => some (Value.int z)) (rfl)
theorem ef_15u (m : MethodId) (a1 : Addr) : entryFrame m #[(.ref a1)] 1 = mkF m 0 #[.val (.ref a1)] [] := by first | (simp [entryFrame, mkF, argsToLocals, Value.category]; done) | rfl
def Q15u (Z : State) (a1 : Addr) (wc : Int32) (h0 : Heap) (n0 : Nat) (v : Option Value) (h : Heap) (L : List Loc) : Prop := v = some (.int (1 : Int32)) ∧ Fr n0 L ∧ h = h0
set_option maxRecDepth 65536 in
set_option maxHeartbeats 40000000 in
theorem rm15u (l : Launch) (Z : State) (a0 : Array Value) (hw : ∀ d ∈ tables_1, d.before a0 Z = true) (ws : List Jvm.Cond) (a1 : Addr) (wc : Int32) (h0 : Heap) (n0 : Nat) (Z0 : n0 ≤ h0.size) (OLD : Old Z n0 h0) (S_c : Sta Z Z.heap "java/lang/String" "COMPACT_STRINGS" "Z" (.int wc)) (hwc : ¬ wc = 0) (FC : Fld Z h0 a1 "java/lang/String" "coder" "B" (.int (1 : Int32))) :
    MetFree l (⟨"java/lang/String", "coder", "()B"⟩ : MethodName) (head1 (Jvm.Cond.code (⟨"java/lang/String", "coder", "()B"⟩ : MethodName) jdk_42_method_152_code 1 (some .byte) :: ws) ({ frames := 0, cells := 0, slots := 0, locals := 0 } : Room)) (fun a U => a = #[(.ref a1)] ∧ Z.Warmed39 U.vm ∧ U.heap = h0) (fun _ _ _ _ _ => True) (fun _ U oo U' => ∃ v L, oo = .returned v ∧ Q15u Z a1 wc h0 n0 v U'.heap L ∧ FrameEnd U oo U' L ({ frames := 0, cells := 0, slots := 0, locals := 0 } : Room).cells ({ frames := 0, cells := 0, slots := 0, locals := 0 } : Room).slots) := by
  refine MetFree.of_bodySF (plainFor_of_name pn_15) hisR ?_
  intro p e s m args below meth c s₁ Bd hml0 hP hK
  obtain ⟨rfl, hZ, hh⟩ := hP
  have hx := Bd.exec
  have hby := Bd.bytes
  have hml : c.maxLocals = 1 := hml0
  have hown : s.vm.findClass "java/lang/String" = some m.cls := findClass_of_methodNamed Bd.named
  have hnm := (name_of_methodNamed Bd.named Bd.method).1
  have X0 : Stand p l e ({ frames := 0, cells := 0, slots := 0, locals := 0 } : Room) s m #[(.ref a1)] below meth c s₁ [] 0 0 := Stand.of_body Bd
  have e0 : s₁.heap = h0 := by rw [← hh, Bd.state]; rfl
  have N0 := Fr.nil n0
  have K0 : Keep h0 h0 [] := Keep.refl _ _
  have pre0 : ∀ tg, Steps p.tables e below (s₁.setTop (mkF m 0 #[.val (.ref a1)] [])) tg → Steps p.tables e below (s₁.setTop (entryFrame m #[(.ref a1)] 1)) tg := fun tg k => castTop (ef_15u m a1) k
  obtain ⟨T1, X1, e1, st1⟩ := getS2 X0 hx hZ hown (host := "") (Or.inl (hw _ (List.mem_of_getElem? (i := 25) rfl))) Via.refl e0 (Sta.ext OLD.2 S_c) (g := (mkF m 0 #[.val (.ref a1)] [])) rfl (hb hby d15_0)
  have st2 : ∀ tg, Steps p.tables e below (T1.setTop (mkF m 7 #[.val (.ref a1)] [(.ref a1)])) tg → Steps p.tables e below (T1.setTop (mkF m 3 #[.val (.ref a1)] [(.int wc)])) tg := by
    intro tg kt
    refine XS.ifNo X1.here hx rfl (hb hby d15_3) rfl (XT.i0_eq_f hwc) ?_
    refine XS.aloadN X1.here hx rfl (hb hby d15_6) rfl rfl ?_
    exact kt
  obtain ⟨T3, X3, e3, st3⟩ := getF X1 hx hZ hown (host := "") (Or.inl (hw _ (List.mem_of_getElem? (i := 26) rfl))) Via.refl e1 FC (g := (mkF m 7 #[.val (.ref a1)] [(.ref a1)])) rfl rfl (hb hby d15_7)
  have st4 : ∀ tg, Steps p.tables e below (T3.setTop (mkF m 14 #[.val (.ref a1)] [(.int (1 : Int32))])) tg → Steps p.tables e below (T3.setTop (mkF m 10 #[.val (.ref a1)] [(.int (1 : Int32))])) tg := by
    intro tg kt
    refine XS.goto X3.here hx rfl (pc0 := 10) (pc' := 14) rfl (hb hby d15_10) (by decide) (by decide) ?_
    exact kt
  obtain ⟨fs, hr, hrun, hended, hW, hsame⟩ := X3.leave (v := some (.int (1 : Int32))) (fun h => by rw [Bd.returns] at h; cases h)
  refine ⟨_, _, pre0 _ ?_, hrun, hended, _, _, rfl, ?_, ⟨_, rfl⟩, hW, hsame.mono (by decide) (by decide)⟩
  · show Steps p.tables e below (s₁.setTop (mkF m 0 #[.val (.ref a1)] [])) _
    refine st1 _ ?_
    refine st2 _ ?_
    show Steps p.tables e below (T1.setTop (mkF m 7 #[.val (.ref a1)] [(.ref a1)])) _
    refine st3 _ ?_
    refine st4 _ ?_
    show Steps p.tables e below (T3.setTop (mkF m 14 #[.val (.ref a1)] [(.int (1 : Int32))])) _
    exact retN X3 hx (t := .byte) Bd.returns (by simp) (hb hby d15_14) hr
  · show Q15u Z a1 wc h0 n0 _ T3.heap _
    rw [e3]
    refine ⟨?_, N0, rfl⟩
    exact congrArg (fun z => some (Value.int z)) (rfl)
theorem d3_0 : decode jdk_42_method_154_code 0 = .ok (.getstatic 38, 3) := by decide +kernel
theorem d3_3 : decode jdk_42_method_154_code 3 = .ok (.ifCond .eq 14, 3) := by decide +kernel
theorem d3_6 : decode jdk_42_method_154_code 6 = .ok (.aload_n 0, 1) := by decide +kernel
theorem d3_7 : decode jdk_42_method_154_code 7 = .ok (.getfield 15, 3) := by decide +kernel
theorem d3_10 : decode jdk_42_method_154_code 10 = .ok (.ifCond .ne 7, 3) := by decide +kernel
theorem d3_13 : decode jdk_42_method_154_code 13 = .ok (.iconst 1, 1) := by decide +kernel
theorem d3_14 : decode jdk_42_method_154_code 14 = .ok (.goto 4, 3) := by decide +kernel
theorem d3_18 : decode jdk_42_method_154_code 18 = .ok (.ireturn, 1) := by decide +kernel
theorem pn_3 : plainName "java/lang/String" = true := by first | (simp [plainName, overriddenIn]; done) | decide +kernel
theorem ef_3l (m : MethodId) (a1 : Addr) : entryFrame m #[(.ref a1)] 1 = mkF m 0 #[.val (.ref a1)] [] := by first | (simp [entryFrame, mkF, argsToLocals, Value.category]; done) | rfl
def Q3l (Z : State) (a1 : Addr) (wc : Int32) (h0 : Heap) (n0 : Nat) (v : Option Value) (h : Heap) (L : List Loc) : Prop := v = some (.int (1 : Int32)) ∧ Fr n0 L ∧ h = h0
set_option maxRecDepth 65536 in
set_option maxHeartbeats 40000000 in
theorem rm3l (l : Launch) (Z : State) (a0 : Array Value) (hw : ∀ d ∈ tables_1, d.before a0 Z = true) (ws : List Jvm.Cond) (a1 : Addr) (wc : Int32) (h0 : Heap) (n0 : Nat) (Z0 : n0 ≤ h0.size) (OLD : Old Z n0 h0) (S_c : Sta Z Z.heap "java/lang/String" "COMPACT_STRINGS" "Z" (.int wc)) (hwc : ¬ wc = 0) (FC : Fld Z h0 a1 "java/lang/String" "coder" "B" (.int (0 : Int32))) :
    MetFree l (⟨"java/lang/String", "isLatin1", "()Z"⟩ : MethodName) (head1 (Jvm.Cond.code (⟨"java/lang/String", "isLatin1", "()Z"⟩ : MethodName) jdk_42_method_154_code 1 (some .boolean) :: ws) ({ frames := 0, cells := 0, slots := 0, locals := 0 } : Room)) (fun a U => a = #[(.ref a1)] ∧ Z.Warmed39 U.vm ∧ U.heap = h0) (fun _ _ _ _ _ => True) (fun _ U oo U' => ∃ v L, oo = .returned v ∧ Q3l Z a1 wc h0 n0 v U'.heap L ∧ FrameEnd U oo U' L ({ frames := 0, cells := 0, slots := 0, locals := 0 } : Room).cells ({ frames := 0, cells := 0, slots := 0, locals := 0 } : Room).slots) := by
  refine MetFree.of_bodySF (plainFor_of_name pn_3) hisR ?_
  intro p e s m args below meth c s₁ Bd hml0 hP hK
  obtain ⟨rfl, hZ, hh⟩ := hP
  have hx := Bd.exec
  have hby := Bd.bytes
  have hml : c.maxLocals = 1 := hml0
  have hown : s.vm.findClass "java/lang/String" = some m.cls := findClass_of_methodNamed Bd.named
  have hnm := (name_of_methodNamed Bd.named Bd.method).1
  have X0 : Stand p l e ({ frames := 0, cells := 0, slots := 0, locals := 0 } : Room) s m #[(.ref a1)] below meth c s₁ [] 0 0 := Stand.of_body Bd
  have e0 : s₁.heap = h0 := by rw [← hh, Bd.state]; rfl
  have N0 := Fr.nil n0
  have K0 : Keep h0 h0 [] := Keep.refl _ _
  have pre0 : ∀ tg, Steps p.tables e below (s₁.setTop (mkF m 0 #[.val (.ref a1)] [])) tg → Steps p.tables e below (s₁.setTop (entryFrame m #[(.ref a1)] 1)) tg := fun tg k => castTop (ef_3l m a1) k
  obtain ⟨T1, X1, e1, st1⟩ := getS2 X0 hx hZ hown (host := "") (Or.inl (hw _ (List.mem_of_getElem? (i := 25) rfl))) Via.refl e0 (Sta.ext OLD.2 S_c) (g := (mkF m 0 #[.val (.ref a1)] [])) rfl (hb hby d3_0)
  have st2 : ∀ tg, Steps p.tables e below (T1.setTop (mkF m 7 #[.val (.ref a1)] [(.ref a1)])) tg → Steps p.tables e below (T1.setTop (mkF m 3 #[.val (.ref a1)] [(.int wc)])) tg := by
    intro tg kt
    refine XS.ifNo X1.here hx rfl (hb hby d3_3) rfl (XT.i0_eq_f hwc) ?_
    refine XS.aloadN X1.here hx rfl (hb hby d3_6) rfl rfl ?_
    exact kt
  obtain ⟨T3, X3, e3, st3⟩ := getF X1 hx hZ hown (host := "") (Or.inl (hw _ (List.mem_of_getElem? (i := 26) rfl))) Via.refl e1 FC (g := (mkF m 7 #[.val (.ref a1)] [(.ref a1)])) rfl rfl (hb hby d3_7)
  have st4 : ∀ tg, Steps p.tables e below (T3.setTop (mkF m 18 #[.val (.ref a1)] [(.int (1 : Int32))])) tg → Steps p.tables e below (T3.setTop (mkF m 10 #[.val (.ref a1)] [(.int (0 : Int32))])) tg := by
    intro tg kt
    refine XS.ifNo X3.here hx rfl (hb hby d3_10) rfl (XT.i0_ne_f (by decide)) ?_
    refine XS.iconst X3.here hx rfl (hb hby d3_13) ?_
    refine XS.goto X3.here hx rfl (pc0 := 14) (pc' := 18) rfl (hb hby d3_14) (by decide) (by decide) ?_
    exact kt
  obtain ⟨fs, hr, hrun, hended, hW, hsame⟩ := X3.leave (v := some (.int (1 : Int32))) (fun h => by rw [Bd.returns] at h; cases h)
  refine ⟨_, _, pre0 _ ?_, hrun, hended, _, _, rfl, ?_, ⟨_, rfl⟩, hW, hsame.mono (by decide) (by decide)⟩
  · show Steps p.tables e below (s₁.setTop (mkF m 0 #[.val (.ref a1)] [])) _
    refine st1 _ ?_
    refine st2 _ ?_
    show Steps p.tables e below (T1.setTop (mkF m 7 #[.val (.ref a1)] [(.ref a1)])) _
    refine st3 _ ?_
    refine st4 _ ?_
    show Steps p.tables e below (T3.setTop (mkF m 18 #[.val (.ref a1)] [(.int (1 : Int32))])) _
    exact retN X3 hx (t := .boolean) Bd.returns (by simp) (hb hby d3_18) hr
  · show Q3l Z a1 wc h0 n0 _ T3.heap _
    rw [e3]
    refine ⟨?_, N0, rfl⟩
    exact congrArg (fun z => some (Value.int z)) (rfl)
theorem d3_17 : decode jdk_42_method_154_code 17 = .ok (.iconst 0, 1) := by decide +kernel
theorem ef_3u (m : MethodId) (a1 : Addr) : entryFrame m #[(.ref a1)] 1 = mkF m 0 #[.val (.ref a1)] [] := by first | (simp [entryFrame, mkF, argsToLocals, Value.category]; done) | rfl
def Q3u (Z : State) (a1 : Addr) (wc : Int32) (h0 : Heap) (n0 : Nat) (v : Option Value) (h : Heap) (L : List Loc) : Prop := v = some (.int (0 : Int32)) ∧ Fr n0 L ∧ h = h0
set_option maxRecDepth 65536 in
set_option maxHeartbeats 40000000 in
theorem rm3u (l : Launch) (Z : State) (a0 : Array Value) (hw : ∀ d ∈ tables_1, d.before a0 Z = true) (ws : List Jvm.Cond) (a1 : Addr) (wc : Int32) (h0 : Heap) (n0 : Nat) (Z0 : n0 ≤ h0.size) (OLD : Old Z n0 h0) (S_c : Sta Z Z.heap "java/lang/String" "COMPACT_STRINGS" "Z" (.int wc)) (hwc : ¬ wc = 0) (FC : Fld Z h0 a1 "java/lang/String" "coder" "B" (.int (1 : Int32))) :
    MetFree l (⟨"java/lang/String", "isLatin1", "()Z"⟩ : MethodName) (head1 (Jvm.Cond.code (⟨"java/lang/String", "isLatin1", "()Z"⟩ : MethodName) jdk_42_method_154_code 1 (some .boolean) :: ws) ({ frames := 0, cells := 0, slots := 0, locals := 0 } : Room)) (fun a U => a = #[(.ref a1)] ∧ Z.Warmed39 U.vm ∧ U.heap = h0) (fun _ _ _ _ _ => True) (fun _ U oo U' => ∃ v L, oo = .returned v ∧ Q3u Z a1 wc h0 n0 v U'.heap L ∧ FrameEnd U oo U' L ({ frames := 0, cells := 0, slots := 0, locals := 0 } : Room).cells ({ frames := 0, cells := 0, slots := 0, locals := 0 } : Room).slots) := by
  refine MetFree.of_bodySF (plainFor_of_name pn_3) hisR ?_
  intro p e s m args below meth c s₁ Bd hml0 hP hK
  obtain ⟨rfl, hZ, hh⟩ := hP
  have hx := Bd.exec
  have hby := Bd.bytes
  have hml : c.maxLocals = 1 := hml0
  have hown : s.vm.findClass "java/lang/String" = some m.cls := findClass_of_methodNamed Bd.named
  have hnm := (name_of_methodNamed Bd.named Bd.method).1
  have X0 : Stand p l e ({ frames := 0, cells := 0, slots := 0, locals := 0 } : Room) s m #[(.ref a1)] below meth c s₁ [] 0 0 := Stand.of_body Bd
  have e0 : s₁.heap = h0 := by rw [← hh, Bd.state]; rfl
  have N0 := Fr.nil n0
  have K0 : Keep h0 h0 [] := Keep.refl _ _
  have pre0 : ∀ tg, Steps p.tables e below (s₁.setTop (mkF m 0 #[.val (.ref a1)] [])) tg → Steps p.tables e below (s₁.setTop (entryFrame m #[(.ref a1)] 1)) tg := fun tg k => castTop (ef_3u m a1) k
  obtain ⟨T1, X1, e1, st1⟩ := getS2 X0 hx hZ hown (host := "") (Or.inl (hw _ (List.mem_of_getElem? (i := 25) rfl))) Via.refl e0 (Sta.ext OLD.2 S_c) (g := (mkF m 0 #[.val (.ref a1)] [])) rfl (hb hby d3_0)
  have st2 : ∀ tg, Steps p.tables e below (T1.setTop (mkF m 7 #[.val (.ref a1)] [(.ref a1)])) tg → Steps p.tables e below (T1.setTop (mkF m 3 #[.val (.ref a1)] [(.int wc)])) tg := by
    intro tg kt
    refine XS.ifNo X1.here hx rfl (hb hby d3_3) rfl (XT.i0_eq_f hwc) ?_
    refine XS.aloadN X1.here hx rfl (hb hby d3_6) rfl rfl ?_
    exact kt
  obtain ⟨T3, X3, e3, st3⟩ := getF X1 hx hZ hown (host := "") (Or.inl (hw _ (List.mem_of_getElem? (i := 26) rfl))) Via.refl e1 FC (g := (mkF m 7 #[.val (.ref a1)] [(.ref a1)])) rfl rfl (hb hby d3_7)
  have st4 : ∀ tg, Steps p.tables e below (T3.setTop (mkF m 18 #[.val (.ref a1)] [(.int (0 : Int32))])) tg → Steps p.tables e below (T3.setTop (mkF m 10 #[.val (.ref a1)] [(.int (1 : Int32))])) tg := by
    intro tg kt
    refine XS.ifYes X3.here hx rfl (pc0 := 10) (pc' := 17) rfl (hb hby d3_10) rfl (XT.i0_ne_t (by decide)) (by decide) (by decide) ?_
    refine XS.iconst X3.here hx rfl (hb hby d3_17) ?_
    exact kt
  obtain ⟨fs, hr, hrun, hended, hW, hsame⟩ := X3.leave (v := some (.int (0 : Int32))) (fun h => by rw [Bd.returns] at h; cases h)
  refine ⟨_, _, pre0 _ ?_, hrun, hended, _, _, rfl, ?_, ⟨_, rfl⟩, hW, hsame.mono (by decide) (by decide)⟩
  · show Steps p.tables e below (s₁.setTop (mkF m 0 #[.val (.ref a1)] [])) _
    refine st1 _ ?_
    refine st2 _ ?_
    show Steps p.tables e below (T1.setTop (mkF m 7 #[.val (.ref a1)] [(.ref a1)])) _
    refine st3 _ ?_
    refine st4 _ ?_
    show Steps p.tables e below (T3.setTop (mkF m 18 #[.val (.ref a1)] [(.int (0 : Int32))])) _
    exact retN X3 hx (t := .boolean) Bd.returns (by simp) (hb hby d3_18) hr
  · show Q3u Z a1 wc h0 n0 _ T3.heap _
    rw [e3]
    refine ⟨?_, N0, rfl⟩
    exact congrArg (fun z => some (Value.int z)) (rfl)
theorem d14_0 : decode jdk_42_method_54_code 0 = .ok (.aload_n 0, 1) := by decide +kernel
theorem d14_1 : decode jdk_42_method_54_code 1 = .ok (.getfield 9, 3) := by decide +kernel
theorem d14_4 : decode jdk_42_method_54_code 4 = .ok (.arraylength, 1) := by decide +kernel
theorem d14_5 : decode jdk_42_method_54_code 5 = .ok (.aload_n 0, 1) := by decide +kernel
theorem d14_6 : decode jdk_42_method_54_code 6 = .ok (.invokevirtual 335, 3) := by decide +kernel
theorem d14_9 : decode jdk_42_method_54_code 9 = .ok (.ishr, 1) := by decide +kernel
theorem d14_10 : decode jdk_42_method_54_code 10 = .ok (.ireturn, 1) := by decide +kernel
theorem pn_14 : plainName "java/lang/String" = true := by first | (simp [plainName, overriddenIn]; done) | decide +kernel
theorem ef_14l (m : MethodId) (a1 : Addr) : entryFrame m #[(.ref a1)] 1 = mkF m 0 #[.val (.ref a1)] [] := by first | (simp [entryFrame, mkF, argsToLocals, Value.category]; done) | rfl
def Q14l (Z : State) (a1 : Addr) (t1 : Addr) (N : Nat) (B : Nat → Int32) (wc : Int32) (h0 : Heap) (n0 : Nat) (v : Option Value) (h : Heap) (L : List Loc) : Prop := v = some (.int (Int32.ofNat N)) ∧ Fr n0 L ∧ h = h0
set_option maxRecDepth 65536 in
set_option maxHeartbeats 40000000 in
theorem rm14l (l : Launch) (Z : State) (a0 : Array Value) (hw : ∀ d ∈ tables_1, d.before a0 Z = true) (ws : List Jvm.Cond) (a1 : Addr) (t1 : Addr) (N : Nat) (B : Nat → Int32) (wc : Int32) (h0 : Heap) (n0 : Nat) (Z0 : n0 ≤ h0.size) (OLD : Old Z n0 h0) (S_c : Sta Z Z.heap "java/lang/String" "COMPACT_STRINGS" "Z" (.int wc)) (hwc : ¬ wc = 0) (hN : N ≤ 100) (FE : Exa Z h0 a1 "java/lang/String") (FC : Fld Z h0 a1 "java/lang/String" "coder" "B" (.int (0 : Int32))) (FV : Fld Z h0 a1 "java/lang/String" "value" "[B" (.ref t1)) (FA : ArF Z h0 t1 .byte N B) :
    MetFree l (⟨"java/lang/String", "length", "()I"⟩ : MethodName) (head1 (Jvm.Cond.code (⟨"java/lang/String", "length", "()I"⟩ : MethodName) jdk_42_method_54_code 1 (some .int) :: ws) ({ frames := 1, cells := 0, slots := 0, locals := 30 } : Room)) (fun a U => a = #[(.ref a1)] ∧ Z.Warmed39 U.vm ∧ U.heap = h0) (fun _ _ _ _ _ => True) (fun _ U oo U' => ∃ v L, oo = .returned v ∧ Q14l Z a1 t1 N B wc h0 n0 v U'.heap L ∧ FrameEnd U oo U' L ({ frames := 1, cells := 0, slots := 0, locals := 30 } : Room).cells ({ frames := 1, cells := 0, slots := 0, locals := 30 } : Room).slots) := by
  refine MetFree.of_bodySF (plainFor_of_name pn_14) hisR ?_
  intro p e s m args below meth c s₁ Bd hml0 hP hK
  obtain ⟨rfl, hZ, hh⟩ := hP
  have hx := Bd.exec
  have hby := Bd.bytes
  have hml : c.maxLocals = 1 := hml0
  have hown : s.vm.findClass "java/lang/String" = some m.cls := findClass_of_methodNamed Bd.named
  have hnm := (name_of_methodNamed Bd.named Bd.method).1
  have X0 : Stand p l e ({ frames := 1, cells := 0, slots := 0, locals := 30 } : Room) s m #[(.ref a1)] below meth c s₁ [] 0 0 := Stand.of_body Bd
  have e0 : s₁.heap = h0 := by rw [← hh, Bd.state]; rfl
  have N0 := Fr.nil n0
  have K0 : Keep h0 h0 [] := Keep.refl _ _
  have pre0 : ∀ tg, Steps p.tables e below (s₁.setTop (mkF m 0 #[.val (.ref a1)] [])) tg → Steps p.tables e below (s₁.setTop (entryFrame m #[(.ref a1)] 1)) tg := fun tg k => castTop (ef_14l m a1) k
  have st1 : ∀ tg, Steps p.tables e below (s₁.setTop (mkF m 1 #[.val (.ref a1)] [(.ref a1)])) tg → Steps p.tables e below (s₁.setTop (mkF m 0 #[.val (.ref a1)] [])) tg := by
    intro tg kt
    refine XS.aloadN X0.here hx rfl (hb hby d14_0) rfl rfl ?_
    exact kt
  obtain ⟨T2, X2, e2, st2⟩ := getF X0 hx hZ hown (host := "") (Or.inl (hw _ (List.mem_of_getElem? (i := 27) rfl))) Via.refl e0 FV (g := (mkF m 1 #[.val (.ref a1)] [(.ref a1)])) rfl rfl (hb hby d14_1)
  obtain ⟨cl3, Ar3, Sa3, Ha3⟩ := id FA
  have st4 : ∀ tg, Steps p.tables e below (T2.setTop (mkF m 6 #[.val (.ref a1)] [(.ref a1), (.int (Int32.ofNat N))])) tg → Steps p.tables e below (T2.setTop (mkF m 4 #[.val (.ref a1)] [(.ref t1)])) tg := by
    intro tg kt
    refine X2.arraylength hx (by rw [e2]; exact Ar3.1) (State.isArrayOf_alike hZ.alike Ar3.2.1) (g := (mkF m 4 #[.val (.ref a1)] [(.ref t1)])) rfl rfl (hb hby d14_4) _ ?_
    rw [show cl3.slots.size.toInt32 = Int32.ofNat N from congrArg Int32.ofNat Sa3]
    refine XS.aloadN X2.here hx rfl (hb hby d14_5) rfl rfl ?_
    exact kt
  obtain ⟨cq5, kq5, q5a, q5b, q5c⟩ := isOf hZ e2 FE
  obtain ⟨_, _, ⟨T5, L5, k5, n5⟩, -, X5, ⟨Lc5, hQ5, l5, y5, z5⟩, st5⟩ := X2.virtualBack hx (y := (⟨"java/lang/String", "coder", "()B"⟩ : MethodName)) (z := (⟨"java/lang/String", "coder", "()B"⟩ : MethodName)) hown (mvT hZ (hw _ (List.mem_of_getElem? (i := 74) rfl))) (mvT hZ (hw _ (List.mem_of_getElem? (i := 75) rfl))) (notFace_of_selects (args := #[]) (mvT hZ (hw _ (List.mem_of_getElem? (i := 77) rfl)))) (mvT hZ (hw _ (List.mem_of_getElem? (i := 77) rfl))) (mvT hZ (hw _ (List.mem_of_getElem? (i := 76) rfl))) (by decide) (backOf (W := 1) (rm15l l Z a0 hw [] a1 wc h0 n0 Z0 OLD S_c hwc FC) hZ (hw _ (List.mem_of_getElem? (i := 78) rfl)) (hw _ (List.mem_of_getElem? (i := 8) rfl)) (by decide) (by decide)) q5a q5c (g := (mkF m 6 #[.val (.ref a1)] [(.ref a1), (.int (Int32.ofNat N))])) rfl (by rw [hml]; rfl) (Steps.refl _) (argsL := []) (rest := [(.int (Int32.ofNat N))]) (lenOf pd_2 rfl) rfl (by show 2 * 0 + _ ≤ _; exact Nat.le_of_eq rfl) (hb hby d14_6) (fun _ _ => ⟨rfl, e2, (by decide : 0 + 0 ≤ _), (by decide : 0 + 0 ≤ _)⟩)
  dsimp only [Pt.U, Pt.locs, Pt.cells, Pt.slots] at X5 l5 y5 z5 st5 hQ5
  subst l5 y5 z5
  obtain ⟨rfl, N5q, e5⟩ := hQ5
  have N5 := Fr.app N0 N5q
  have st6 : ∀ tg, Steps p.tables e below (T5.setTop (mkF m 10 #[.val (.ref a1)] [(.int ((Int32.ofNat N) >>> ((0 : Int32) &&& 31)))])) tg → Steps p.tables e below (T5.setTop (mkF m 9 #[.val (.ref a1)] [(.int (0 : Int32)), (.int (Int32.ofNat N))])) tg := by
    intro tg kt
    refine XS.ishr X5.here hx rfl (hb hby d14_9) rfl ?_
    exact kt
  obtain ⟨fs, hr, hrun, hended, hW, hsame⟩ := X5.leave (v := some (.int ((Int32.ofNat N) >>> ((0 : Int32) &&& 31)))) (fun h => by rw [Bd.returns] at h; cases h)
  refine ⟨_, _, pre0 _ ?_, hrun, hended, _, _, rfl, ?_, ⟨_, rfl⟩, hW, hsame.mono (by decide) (by decide)⟩
  · refine st1 _ ?_
    show Steps p.tables e below (s₁.setTop (mkF m 1 #[.val (.ref a1)] [(.ref a1)])) _
    refine st2 _ ?_
    refine st4 _ ?_
    show Steps p.tables e below (T2.setTop (mkF m 6 #[.val (.ref a1)] [(.ref a1), (.int (Int32.ofNat N))])) _
    refine st5.trans ?_
    refine st6 _ ?_
    show Steps p.tables e below (T5.setTop (mkF m 10 #[.val (.ref a1)] [(.int ((Int32.ofNat N) >>> ((0 : Int32) &&& 31)))])) _
    exact retI X5 hx Bd.returns (hb hby d14_10) hr
  · show Q14l Z a1 t1 N B wc h0 n0 _ T5.heap _
    rw [e5]
    refine ⟨?_, N5, rfl⟩
    exact congrArg (fun z => some (Value.int z)) (own_shr0 _)
theorem ef_14u (m : MethodId) (a1 : Addr) : entryFrame m #[(.ref a1)] 1 = mkF m 0 #[.val (.ref a1)] [] := by first | (simp [entryFrame, mkF, argsToLocals, Value.category]; done) | rfl
def Q14u (Z : State) (a1 : Addr) (t1 : Addr) (N : Nat) (B : Nat → Int32) (wc : Int32) (h0 : Heap) (n0 : Nat) (v : Option Value) (h : Heap) (L : List Loc) : Prop := v = some (.int (Int32.ofNat N)) ∧ Fr n0 L ∧ h = h0
set_option maxRecDepth 65536 in
set_option maxHeartbeats 40000000 in
theorem rm14u (l : Launch) (Z : State) (a0 : Array Value) (hw : ∀ d ∈ tables_1, d.before a0 Z = true) (ws : List Jvm.Cond) (a1 : Addr) (t1 : Addr) (N : Nat) (B : Nat → Int32) (wc : Int32) (h0 : Heap) (n0 : Nat) (Z0 : n0 ≤ h0.size) (OLD : Old Z n0 h0) (S_c : Sta Z Z.heap "java/lang/String" "COMPACT_STRINGS" "Z" (.int wc)) (hwc : ¬ wc = 0) (hN : N ≤ 100) (FE : Exa Z h0 a1 "java/lang/String") (FC : Fld Z h0 a1 "java/lang/String" "coder" "B" (.int (1 : Int32))) (FV : Fld Z h0 a1 "java/lang/String" "value" "[B" (.ref t1)) (FA : ArF Z h0 t1 .byte (2 * N) B) :
    MetFree l (⟨"java/lang/String", "length", "()I"⟩ : MethodName) (head1 (Jvm.Cond.code (⟨"java/lang/String", "length", "()I"⟩ : MethodName) jdk_42_method_54_code 1 (some .int) :: ws) ({ frames := 1, cells := 0, slots := 0, locals := 30 } : Room)) (fun a U => a = #[(.ref a1)] ∧ Z.Warmed39 U.vm ∧ U.heap = h0) (fun _ _ _ _ _ => True) (fun _ U oo U' => ∃ v L, oo = .returned v ∧ Q14u Z a1 t1 N B wc h0 n0 v U'.heap L ∧ FrameEnd U oo U' L ({ frames := 1, cells := 0, slots := 0, locals := 30 } : Room).cells ({ frames := 1, cells := 0, slots := 0, locals := 30 } : Room).slots) := by
  refine MetFree.of_bodySF (plainFor_of_name pn_14) hisR ?_
  intro p e s m args below meth c s₁ Bd hml0 hP hK
  obtain ⟨rfl, hZ, hh⟩ := hP
  have hx := Bd.exec
  have hby := Bd.bytes
  have hml : c.maxLocals = 1 := hml0
  have hown : s.vm.findClass "java/lang/String" = some m.cls := findClass_of_methodNamed Bd.named
  have hnm := (name_of_methodNamed Bd.named Bd.method).1
  have X0 : Stand p l e ({ frames := 1, cells := 0, slots := 0, locals := 30 } : Room) s m #[(.ref a1)] below meth c s₁ [] 0 0 := Stand.of_body Bd
  have e0 : s₁.heap = h0 := by rw [← hh, Bd.state]; rfl
  have N0 := Fr.nil n0
  have K0 : Keep h0 h0 [] := Keep.refl _ _
  have pre0 : ∀ tg, Steps p.tables e below (s₁.setTop (mkF m 0 #[.val (.ref a1)] [])) tg → Steps p.tables e below (s₁.setTop (entryFrame m #[(.ref a1)] 1)) tg := fun tg k => castTop (ef_14u m a1) k
  have st1 : ∀ tg, Steps p.tables e below (s₁.setTop (mkF m 1 #[.val (.ref a1)] [(.ref a1)])) tg → Steps p.tables e below (s₁.setTop (mkF m 0 #[.val (.ref a1)] [])) tg := by
    intro tg kt
    refine XS.aloadN X0.here hx rfl (hb hby d14_0) rfl rfl ?_
    exact kt
  obtain ⟨T2, X2, e2, st2⟩ := getF X0 hx hZ hown (host := "") (Or.inl (hw _ (List.mem_of_getElem? (i := 27) rfl))) Via.refl e0 FV (g := (mkF m 1 #[.val (.ref a1)] [(.ref a1)])) rfl rfl (hb hby d14_1)
  obtain ⟨cl3, Ar3, Sa3, Ha3⟩ := id FA
  have st4 : ∀ tg, Steps p.tables e below (T2.setTop (mkF m 6 #[.val (.ref a1)] [(.ref a1), (.int (Int32.ofNat (2 * N)))])) tg → Steps p.tables e below (T2.setTop (mkF m 4 #[.val (.ref a1)] [(.ref t1)])) tg := by
    intro tg kt
    refine X2.arraylength hx (by rw [e2]; exact Ar3.1) (State.isArrayOf_alike hZ.alike Ar3.2.1) (g := (mkF m 4 #[.val (.ref a1)] [(.ref t1)])) rfl rfl (hb hby d14_4) _ ?_
    rw [show cl3.slots.size.toInt32 = Int32.ofNat (2 * N) from congrArg Int32.ofNat Sa3]
    refine XS.aloadN X2.here hx rfl (hb hby d14_5) rfl rfl ?_
    exact kt
  obtain ⟨cq5, kq5, q5a, q5b, q5c⟩ := isOf hZ e2 FE
  obtain ⟨_, _, ⟨T5, L5, k5, n5⟩, -, X5, ⟨Lc5, hQ5, l5, y5, z5⟩, st5⟩ := X2.virtualBack hx (y := (⟨"java/lang/String", "coder", "()B"⟩ : MethodName)) (z := (⟨"java/lang/String", "coder", "()B"⟩ : MethodName)) hown (mvT hZ (hw _ (List.mem_of_getElem? (i := 74) rfl))) (mvT hZ (hw _ (List.mem_of_getElem? (i := 75) rfl))) (notFace_of_selects (args := #[]) (mvT hZ (hw _ (List.mem_of_getElem? (i := 77) rfl)))) (mvT hZ (hw _ (List.mem_of_getElem? (i := 77) rfl))) (mvT hZ (hw _ (List.mem_of_getElem? (i := 76) rfl))) (by decide) (backOf (W := 1) (rm15u l Z a0 hw [] a1 wc h0 n0 Z0 OLD S_c hwc FC) hZ (hw _ (List.mem_of_getElem? (i := 78) rfl)) (hw _ (List.mem_of_getElem? (i := 8) rfl)) (by decide) (by decide)) q5a q5c (g := (mkF m 6 #[.val (.ref a1)] [(.ref a1), (.int (Int32.ofNat (2 * N)))])) rfl (by rw [hml]; rfl) (Steps.refl _) (argsL := []) (rest := [(.int (Int32.ofNat (2 * N)))]) (lenOf pd_2 rfl) rfl (by show 2 * 0 + _ ≤ _; exact Nat.le_of_eq rfl) (hb hby d14_6) (fun _ _ => ⟨rfl, e2, (by decide : 0 + 0 ≤ _), (by decide : 0 + 0 ≤ _)⟩)
  dsimp only [Pt.U, Pt.locs, Pt.cells, Pt.slots] at X5 l5 y5 z5 st5 hQ5
  subst l5 y5 z5
  obtain ⟨rfl, N5q, e5⟩ := hQ5
  have N5 := Fr.app N0 N5q
  have st6 : ∀ tg, Steps p.tables e below (T5.setTop (mkF m 10 #[.val (.ref a1)] [(.int ((Int32.ofNat (2 * N)) >>> ((1 : Int32) &&& 31)))])) tg → Steps p.tables e below (T5.setTop (mkF m 9 #[.val (.ref a1)] [(.int (1 : Int32)), (.int (Int32.ofNat (2 * N)))])) tg := by
    intro tg kt
    refine XS.ishr X5.here hx rfl (hb hby d14_9) rfl ?_
    exact kt
  obtain ⟨fs, hr, hrun, hended, hW, hsame⟩ := X5.leave (v := some (.int ((Int32.ofNat (2 * N)) >>> ((1 : Int32) &&& 31)))) (fun h => by rw [Bd.returns] at h; cases h)
  refine ⟨_, _, pre0 _ ?_, hrun, hended, _, _, rfl, ?_, ⟨_, rfl⟩, hW, hsame.mono (by decide) (by decide)⟩
  · refine st1 _ ?_
    show Steps p.tables e below (s₁.setTop (mkF m 1 #[.val (.ref a1)] [(.ref a1)])) _
    refine st2 _ ?_
    refine st4 _ ?_
    show Steps p.tables e below (T2.setTop (mkF m 6 #[.val (.ref a1)] [(.ref a1), (.int (Int32.ofNat (2 * N)))])) _
    refine st5.trans ?_
    refine st6 _ ?_
    show Steps p.tables e below (T5.setTop (mkF m 10 #[.val (.ref a1)] [(.int ((Int32.ofNat (2 * N)) >>> ((1 : Int32) &&& 31)))])) _
    exact retI X5 hx Bd.returns (hb hby d14_10) hr
  · show Q14u Z a1 t1 N B wc h0 n0 _ T5.heap _
    rw [e5]
    refine ⟨?_, N5, rfl⟩
    exact congrArg (fun z => some (Value.int z)) (own_shr1 (by omega))
def Q14c (Z : State) (a1 : Addr) (N : Nat) (C : Nat → Int32) (wc : Int32) (h0 : Heap) (n0 : Nat) (v : Option Value) (h : Heap) (L : List Loc) : Prop := v = some (.int (Int32.ofNat N)) ∧ Fr n0 L ∧ h = h0
theorem rm14c (l : Launch) (Z : State) (a0 : Array Value) (hw : ∀ d ∈ tables_1, d.before a0 Z = true) (ws : List Jvm.Cond) (a1 : Addr) (N : Nat) (C : Nat → Int32) (wc : Int32) (h0 : Heap) (n0 : Nat) (Z0 : n0 ≤ h0.size) (OLD : Old Z n0 h0) (S_c : Sta Z Z.heap "java/lang/String" "COMPACT_STRINGS" "Z" (.int wc)) (hwc : ¬ wc = 0) (hN : N ≤ 100) (HS : StrF Z h0 a1 N C) :
    MetFree l (⟨"java/lang/String", "length", "()I"⟩ : MethodName) (head1 (Jvm.Cond.code (⟨"java/lang/String", "length", "()I"⟩ : MethodName) jdk_42_method_54_code 1 (some .int) :: ws) ({ frames := 1, cells := 0, slots := 0, locals := 30 } : Room)) (fun a U => a = #[(.ref a1)] ∧ Z.Warmed39 U.vm ∧ U.heap = h0) (fun _ _ _ _ _ => True) (fun _ U oo U' => ∃ v L, oo = .returned v ∧ Q14c Z a1 N C wc h0 n0 v U'.heap L ∧ FrameEnd U oo U' L ({ frames := 1, cells := 0, slots := 0, locals := 30 } : Room).cells ({ frames := 1, cells := 0, slots := 0, locals := 30 } : Room).slots) := by
  obtain ⟨t1, B, hC, HS | HS⟩ := HS
  · exact rm14l l Z a0 hw ws a1 t1 N B wc h0 n0 Z0 OLD S_c hwc hN HS.1 HS.2.2.1 HS.2.1 HS.2.2.2.1
  · exact rm14u l Z a0 hw ws a1 t1 N B wc h0 n0 Z0 OLD S_c hwc hN HS.1 HS.2.2.1 HS.2.1 HS.2.2.2.1
theorem d34_0 : decode jdk_52_method_6_code 0 = .ok (.aload_n 0, 1) := by decide +kernel
theorem d34_1 : decode jdk_52_method_6_code 1 = .ok (.arraylength, 1) := by decide +kernel
theorem d34_2 : decode jdk_52_method_6_code 2 = .ok (.iconst 1, 1) := by decide +kernel
theorem d34_3 : decode jdk_52_method_6_code 3 = .ok (.ishr, 1) := by decide +kernel
theorem d34_4 : decode jdk_52_method_6_code 4 = .ok (.ireturn, 1) := by decide +kernel
theorem pn_34 : plainName "java/lang/StringUTF16" = true := by first | (simp [plainName, overriddenIn]; done) | decide +kernel
theorem ef_34 (m : MethodId) (a1 : Addr) : entryFrame m #[(.ref a1)] 1 = mkF m 0 #[.val (.ref a1)] [] := by first | (simp [entryFrame, mkF, argsToLocals, Value.category]; done) | rfl
def Q34 (Z : State) (a1 : Addr) (N : Nat) (B : Nat → Int32) (h0 : Heap) (n0 : Nat) (v : Option Value) (h : Heap) (L : List Loc) : Prop := v = some (.int (Int32.ofNat N)) ∧ Fr n0 L ∧ h = h0
set_option maxRecDepth 65536 in
set_option maxHeartbeats 40000000 in
theorem rm34 (l : Launch) (Z : State) (a0 : Array Value) (hw : ∀ d ∈ tables_1, d.before a0 Z = true) (ws : List Jvm.Cond) (a1 : Addr) (N : Nat) (B : Nat → Int32) (h0 : Heap) (n0 : Nat) (Z0 : n0 ≤ h0.size) (hN : N ≤ 100) (FA : ArF Z h0 a1 .byte (2 * N) B) :
    MetFree l (⟨"java/lang/StringUTF16", "length", "([B)I"⟩ : MethodName) (head1 (Jvm.Cond.code (⟨"java/lang/StringUTF16", "length", "([B)I"⟩ : MethodName) jdk_52_method_6_code 1 (some .int) :: ws) ({ frames := 0, cells := 0, slots := 0, locals := 0 } : Room)) (fun a U => a = #[(.ref a1)] ∧ Z.Warmed39 U.vm ∧ U.heap = h0) (fun _ _ _ _ _ => True) (fun _ U oo U' => ∃ v L, oo = .returned v ∧ Q34 Z a1 N B h0 n0 v U'.heap L ∧ FrameEnd U oo U' L ({ frames := 0, cells := 0, slots := 0, locals := 0 } : Room).cells ({ frames := 0, cells := 0, slots := 0, locals := 0 } : Room).slots) := by
  refine MetFree.of_bodySF (plainFor_of_name pn_34) hisR ?_
  intro p e s m args below meth c s₁ Bd hml0 hP hK
  obtain ⟨rfl, hZ, hh⟩ := hP
  have hx := Bd.exec
  have hby := Bd.bytes
  have hml : c.maxLocals = 1 := hml0
  have hown : s.vm.findClass "java/lang/StringUTF16" = some m.cls := findClass_of_methodNamed Bd.named
  have hnm := (name_of_methodNamed Bd.named Bd.method).1
  have X0 : Stand p l e ({ frames := 0, cells := 0, slots := 0, locals := 0 } : Room) s m #[(.ref a1)] below meth c s₁ [] 0 0 := Stand.of_body Bd
  have e0 : s₁.heap = h0 := by rw [← hh, Bd.state]; rfl
  have N0 := Fr.nil n0
  have K0 : Keep h0 h0 [] := Keep.refl _ _
  have pre0 : ∀ tg, Steps p.tables e below (s₁.setTop (mkF m 0 #[.val (.ref a1)] [])) tg → Steps p.tables e below (s₁.setTop (entryFrame m #[(.ref a1)] 1)) tg := fun tg k => castTop (ef_34 m a1) k
  have st2 : ∀ tg, Steps p.tables e below (s₁.setTop (mkF m 1 #[.val (.ref a1)] [(.ref a1)])) tg → Steps p.tables e below (s₁.setTop (mkF m 0 #[.val (.ref a1)] [])) tg := by
    intro tg kt
    refine XS.aloadN X0.here hx rfl (hb hby d34_0) rfl rfl ?_
    exact kt
  obtain ⟨cl1, Ar1, Sa1, Ha1⟩ := id FA
  have st3 : ∀ tg, Steps p.tables e below (s₁.setTop (mkF m 4 #[.val (.ref a1)] [(.int ((Int32.ofNat (2 * N)) >>> ((1 : Int32) &&& 31)))])) tg → Steps p.tables e below (s₁.setTop (mkF m 1 #[.val (.ref a1)] [(.ref a1)])) tg := by
    intro tg kt
    refine X0.arraylength hx (by rw [e0]; exact Ar1.1) (State.isArrayOf_alike hZ.alike Ar1.2.1) (g := (mkF m 1 #[.val (.ref a1)] [(.ref a1)])) rfl rfl (hb hby d34_1) _ ?_
    rw [show cl1.slots.size.toInt32 = Int32.ofNat (2 * N) from congrArg Int32.ofNat Sa1]
    refine XS.iconst X0.here hx rfl (hb hby d34_2) ?_
    refine XS.ishr X0.here hx rfl (hb hby d34_3) rfl ?_
    exact kt
  obtain ⟨fs, hr, hrun, hended, hW, hsame⟩ := X0.leave (v := some (.int ((Int32.ofNat (2 * N)) >>> ((1 : Int32) &&& 31)))) (fun h => by rw [Bd.returns] at h; cases h)
  refine ⟨_, _, pre0 _ ?_, hrun, hended, _, _, rfl, ?_, ⟨_, rfl⟩, hW, hsame.mono (by decide) (by decide)⟩
  · refine st2 _ ?_
    refine st3 _ ?_
    show Steps p.tables e below (s₁.setTop (mkF m 4 #[.val (.ref a1)] [(.int ((Int32.ofNat (2 * N)) >>> ((1 : Int32) &&& 31)))])) _
    exact retI X0 hx Bd.returns (hb hby d34_4) hr
  · show Q34 Z a1 N B h0 n0 _ s₁.heap _
    rw [e0]
    refine ⟨?_, N0, rfl⟩
    exact congrArg (fun z => some (Value.int z)) (own_shr1 (by omega))
theorem d4_0 : decode jdk_43_method_2_code 0 = .ok (.iload_n 1, 1) := by decide +kernel
theorem d4_1 : decode jdk_43_method_2_code 1 = .ok (.aload_n 0, 1) := by decide +kernel
theorem d4_2 : decode jdk_43_method_2_code 2 = .ok (.arraylength, 1) := by decide +kernel
theorem d4_3 : decode jdk_43_method_2_code 3 = .ok (.invokestatic 9, 3) := by decide +kernel
theorem d4_6 : decode jdk_43_method_2_code 6 = .ok (.aload_n 0, 1) := by decide +kernel
theorem d4_7 : decode jdk_43_method_2_code 7 = .ok (.iload_n 1, 1) := by decide +kernel
theorem d4_8 : decode jdk_43_method_2_code 8 = .ok (.baload, 1) := by decide +kernel
theorem d4_9 : decode jdk_43_method_2_code 9 = .ok (.sipush 255, 3) := by decide +kernel
theorem d4_12 : decode jdk_43_method_2_code 12 = .ok (.iand, 1) := by decide +kernel
theorem d4_13 : decode jdk_43_method_2_code 13 = .ok (.i2c, 1) := by decide +kernel
theorem d4_14 : decode jdk_43_method_2_code 14 = .ok (.ireturn, 1) := by decide +kernel
theorem pn_4 : plainName "java/lang/StringLatin1" = true := by first | (simp [plainName, overriddenIn]; done) | decide +kernel
theorem ef_4 (m : MethodId) (a1 : Addr) (y1 : Int32) : entryFrame m #[(.ref a1), (.int y1)] 2 = mkF m 0 #[.val (.ref a1), .val (.int y1)] [] := by first | (simp [entryFrame, mkF, argsToLocals, Value.category]; done) | rfl
def Q4 (Z : State) (a1 : Addr) (N : Nat) (B : Nat → Int32) (i : Nat) (fm : Value) (h0 : Heap) (n0 : Nat) (v : Option Value) (h : Heap) (L : List Loc) : Prop := v = some (.int (D8 (B i))) ∧ Fr n0 L ∧ h = h0
set_option maxRecDepth 65536 in
set_option maxHeartbeats 40000000 in
theorem rm4 (l : Launch) (Z : State) (a0 : Array Value) (hw : ∀ d ∈ tables_1, d.before a0 Z = true) (ws : List Jvm.Cond) (a1 : Addr) (N : Nat) (B : Nat → Int32) (i : Nat) (fm : Value) (h0 : Heap) (n0 : Nat) (Z0 : n0 ≤ h0.size) (OLD : Old Z n0 h0) (hfm : fm.isRef = true) (S_f : Sta Z Z.heap "jdk/internal/util/Preconditions" "SIOOBE_FORMATTER" "Ljava/util/function/BiFunction;" fm) (hN : N ≤ 100) (hi : i < N) (FA : ArF Z h0 a1 .byte N B) :
    MetFree l (⟨"java/lang/StringLatin1", "charAt", "([BI)C"⟩ : MethodName) (head1 (Jvm.Cond.code (⟨"java/lang/StringLatin1", "charAt", "([BI)C"⟩ : MethodName) jdk_43_method_2_code 2 (some .char) :: ws) ({ frames := 2, cells := 0, slots := 0, locals := 27 } : Room)) (fun a U => a = #[(.ref a1), (.int (Int32.ofNat i))] ∧ Z.Warmed39 U.vm ∧ U.heap = h0) (fun _ _ _ _ _ => True) (fun _ U oo U' => ∃ v L, oo = .returned v ∧ Q4 Z a1 N B i fm h0 n0 v U'.heap L ∧ FrameEnd U oo U' L ({ frames := 2, cells := 0, slots := 0, locals := 27 } : Room).cells ({ frames := 2, cells := 0, slots := 0, locals := 27 } : Room).slots) := by
  refine MetFree.of_bodySF (plainFor_of_name pn_4) hisR ?_
  intro p e s m args below meth c s₁ Bd hml0 hP hK
  obtain ⟨rfl, hZ, hh⟩ := hP
  have hx := Bd.exec
  have hby := Bd.bytes
  have hml : c.maxLocals = 2 := hml0
  have hown : s.vm.findClass "java/lang/StringLatin1" = some m.cls := findClass_of_methodNamed Bd.named
  have hnm := (name_of_methodNamed Bd.named Bd.method).1
  have X0 : Stand p l e ({ frames := 2, cells := 0, slots := 0, locals := 27 } : Room) s m #[(.ref a1), (.int (Int32.ofNat i))] below meth c s₁ [] 0 0 := Stand.of_body Bd
  have e0 : s₁.heap = h0 := by rw [← hh, Bd.state]; rfl
  have N0 := Fr.nil n0
  have K0 : Keep h0 h0 [] := Keep.refl _ _
  have pre0 : ∀ tg, Steps p.tables e below (s₁.setTop (mkF m 0 #[.val (.ref a1), .val (.int (Int32.ofNat i))] [])) tg → Steps p.tables e below (s₁.setTop (entryFrame m #[(.ref a1), (.int (Int32.ofNat i))] 2)) tg := fun tg k => castTop (ef_4 m a1 (Int32.ofNat i)) k
  have st2 : ∀ tg, Steps p.tables e below (s₁.setTop (mkF m 2 #[.val (.ref a1), .val (.int (Int32.ofNat i))] [(.ref a1), (.int (Int32.ofNat i))])) tg → Steps p.tables e below (s₁.setTop (mkF m 0 #[.val (.ref a1), .val (.int (Int32.ofNat i))] [])) tg := by
    intro tg kt
    refine XS.iloadN X0.here hx rfl (hb hby d4_0) rfl ?_
    refine XS.aloadN X0.here hx rfl (hb hby d4_1) rfl rfl ?_
    exact kt
  obtain ⟨cl1, Ar1, Sa1, Ha1⟩ := id FA
  have st3 : ∀ tg, Steps p.tables e below (s₁.setTop (mkF m 3 #[.val (.ref a1), .val (.int (Int32.ofNat i))] [(.int (Int32.ofNat N)), (.int (Int32.ofNat i))])) tg → Steps p.tables e below (s₁.setTop (mkF m 2 #[.val (.ref a1), .val (.int (Int32.ofNat i))] [(.ref a1), (.int (Int32.ofNat i))])) tg := by
    intro tg kt
    refine X0.arraylength hx (by rw [e0]; exact Ar1.1) (State.isArrayOf_alike hZ.alike Ar1.2.1) (g := (mkF m 2 #[.val (.ref a1), .val (.int (Int32.ofNat i))] [(.ref a1), (.int (Int32.ofNat i))])) rfl rfl (hb hby d4_2) _ ?_
    rw [show cl1.slots.size.toInt32 = Int32.ofNat N from congrArg Int32.ofNat Sa1]
    exact kt
  obtain ⟨_, _, ⟨T4, L4, k4, n4⟩, -, X4, ⟨Lc4, hQ4, l4, y4, z4⟩, st4⟩ := Jvm.LawKit.callS X0 hx (y := (⟨"java/lang/String", "checkIndex", "(II)V"⟩ : MethodName)) hown (mvT hZ (hw _ (List.mem_of_getElem? (i := 32) rfl))) (mvT hZ (hw _ (List.mem_of_getElem? (i := 33) rfl))) (mvT hZ (hw _ (List.mem_of_getElem? (i := 8) rfl))) (mvT hZ (hw _ (List.mem_of_getElem? (i := 34) rfl))) (by decide) (backOf (W := 0) (rm5c l Z a0 hw [] (Int32.ofNat i) (Int32.ofNat N) fm h0 n0 Z0 OLD hfm S_f (own_nn (by omega)) ((own_lt (by omega) (by omega)).mpr hi)) hZ (hw _ (List.mem_of_getElem? (i := 34) rfl)) (hw _ (List.mem_of_getElem? (i := 8) rfl)) (by decide) (by decide)) (g := (mkF m 3 #[.val (.ref a1), .val (.int (Int32.ofNat i))] [(.int (Int32.ofNat N)), (.int (Int32.ofNat i))])) rfl (by rw [hml]; rfl) (argsL := [(.int (Int32.ofNat i)), (.int (Int32.ofNat N))]) (rest := []) (lenOf pd_3 rfl) rfl (by show 2 * 0 + _ ≤ _; exact Nat.le_of_eq rfl) (hb hby d4_3) (fun _ _ => ⟨rfl, e0, (by decide : 0 + 0 ≤ _), (by decide : 0 + 0 ≤ _)⟩)
  dsimp only [Pt.U, Pt.locs, Pt.cells, Pt.slots] at X4 l4 y4 z4 st4 hQ4
  subst l4 y4 z4
  obtain ⟨rfl, N4q, e4⟩ := hQ4
  have N4 := Fr.app N0 N4q
  have st6 : ∀ tg, Steps p.tables e below (T4.setTop (mkF m 8 #[.val (.ref a1), .val (.int (Int32.ofNat i))] [(.int (Int32.ofNat i)), (.ref a1)])) tg → Steps p.tables e below (T4.setTop (mkF m 6 #[.val (.ref a1), .val (.int (Int32.ofNat i))] [])) tg := by
    intro tg kt
    refine XS.aloadN X4.here hx rfl (hb hby d4_6) rfl rfl ?_
    refine XS.iloadN X4.here hx rfl (hb hby d4_7) rfl ?_
    exact kt
  obtain ⟨cl5, Ar5, Sa5, Ha5⟩ := id FA
  have hin5 : ¬ (Int32.ofNat i < 0 ∨ cl5.slots.size ≤ (Int32.ofNat i).toNatClampNeg) := own_in (by omega) (by omega) Sa5
  have hat5 : cl5.slots[(Int32.ofNat i).toNatClampNeg]? = some (.int (B i)) := own_at (by omega) (by omega) Ha5
  have st7 : ∀ tg, Steps p.tables e below (T4.setTop (mkF m 14 #[.val (.ref a1), .val (.int (Int32.ofNat i))] [(.int (((B i) &&& (255 : Int32)).toUInt32.toUInt16.toUInt32.toInt32))])) tg → Steps p.tables e below (T4.setTop (mkF m 8 #[.val (.ref a1), .val (.int (Int32.ofNat i))] [(.int (Int32.ofNat i)), (.ref a1)])) tg := by
    intro tg kt
    refine X4.baloadBytes hx (j := Int32.ofNat i) (v := (.int (B i))) (by rw [e4]; exact Ar5.1) (State.isArrayOf_alike hZ.alike Ar5.2.1) Ar5.2.2 hin5 hat5 (g := (mkF m 8 #[.val (.ref a1), .val (.int (Int32.ofNat i))] [(.int (Int32.ofNat i)), (.ref a1)])) rfl rfl (hb hby d4_8) _ ?_
    refine XS.sipush X4.here hx rfl (hb hby d4_9) ?_
    refine XS.iand X4.here hx rfl (hb hby d4_12) rfl ?_
    refine XS.i2c X4.here hx rfl (hb hby d4_13) rfl ?_
    exact kt
  obtain ⟨fs, hr, hrun, hended, hW, hsame⟩ := X4.leave (v := some (.int (nar .char (((B i) &&& (255 : Int32)).toUInt32.toUInt16.toUInt32.toInt32)))) (fun h => by rw [Bd.returns] at h; cases h)
  refine ⟨_, _, pre0 _ ?_, hrun, hended, _, _, rfl, ?_, ⟨_, rfl⟩, hW, hsame.mono (by decide) (by decide)⟩
  · refine st2 _ ?_
    refine st3 _ ?_
    show Steps p.tables e below (s₁.setTop (mkF m 3 #[.val (.ref a1), .val (.int (Int32.ofNat i))] [(.int (Int32.ofNat N)), (.int (Int32.ofNat i))])) _
    refine st4 _ ?_
    refine st6 _ ?_
    refine st7 _ ?_
    show Steps p.tables e below (T4.setTop (mkF m 14 #[.val (.ref a1), .val (.int (Int32.ofNat i))] [(.int (((B i) &&& (255 : Int32)).toUInt32.toUInt16.toUInt32.toInt32))])) _
    exact retN X4 hx (t := .char) Bd.returns (by simp) (hb hby d4_14) hr
  · show Q4 Z a1 N B i fm h0 n0 _ T4.heap _
    rw [e4]
    refine ⟨?_, N4, rfl⟩
    exact congrArg (fun z => some (Value.int z)) (rfl)
theorem d30_0 : decode jdk_52_method_5_code 0 = .ok (.getstatic 44, 3) := by decide +kernel
theorem d30_3 : decode jdk_52_method_5_code 3 = .ok (.ifCond .ne 25, 3) := by decide +kernel
theorem d30_28 : decode jdk_52_method_5_code 28 = .ok (.iload_n 1, 1) := by decide +kernel
theorem d30_29 : decode jdk_52_method_5_code 29 = .ok (.iconst 1, 1) := by decide +kernel
theorem d30_30 : decode jdk_52_method_5_code 30 = .ok (.ishl, 1) := by decide +kernel
theorem d30_31 : decode jdk_52_method_5_code 31 = .ok (.istore_n 1, 1) := by decide +kernel
theorem d30_32 : decode jdk_52_method_5_code 32 = .ok (.aload_n 0, 1) := by decide +kernel
theorem d30_33 : decode jdk_52_method_5_code 33 = .ok (.iload_n 1, 1) := by decide +kernel
theorem d30_34 : decode jdk_52_method_5_code 34 = .ok (.iinc 1 1, 3) := by decide +kernel
theorem d30_37 : decode jdk_52_method_5_code 37 = .ok (.baload, 1) := by decide +kernel
theorem d30_38 : decode jdk_52_method_5_code 38 = .ok (.sipush 255, 3) := by decide +kernel
theorem d30_41 : decode jdk_52_method_5_code 41 = .ok (.iand, 1) := by decide +kernel
theorem d30_42 : decode jdk_52_method_5_code 42 = .ok (.getstatic 59, 3) := by decide +kernel
theorem d30_45 : decode jdk_52_method_5_code 45 = .ok (.ishl, 1) := by decide +kernel
theorem d30_46 : decode jdk_52_method_5_code 46 = .ok (.aload_n 0, 1) := by decide +kernel
theorem d30_47 : decode jdk_52_method_5_code 47 = .ok (.iload_n 1, 1) := by decide +kernel
theorem d30_48 : decode jdk_52_method_5_code 48 = .ok (.baload, 1) := by decide +kernel
theorem d30_49 : decode jdk_52_method_5_code 49 = .ok (.sipush 255, 3) := by decide +kernel
theorem d30_52 : decode jdk_52_method_5_code 52 = .ok (.iand, 1) := by decide +kernel
theorem d30_53 : decode jdk_52_method_5_code 53 = .ok (.getstatic 63, 3) := by decide +kernel
theorem d30_56 : decode jdk_52_method_5_code 56 = .ok (.ishl, 1) := by decide +kernel
theorem d30_57 : decode jdk_52_method_5_code 57 = .ok (.ior, 1) := by decide +kernel
theorem d30_58 : decode jdk_52_method_5_code 58 = .ok (.i2c, 1) := by decide +kernel
theorem d30_59 : decode jdk_52_method_5_code 59 = .ok (.ireturn, 1) := by decide +kernel
theorem pn_30 : plainName "java/lang/StringUTF16" = true := by first | (simp [plainName, overriddenIn]; done) | decide +kernel
theorem ef_30 (m : MethodId) (a1 : Addr) (y1 : Int32) : entryFrame m #[(.ref a1), (.int y1)] 2 = mkF m 0 #[.val (.ref a1), .val (.int y1)] [] := by first | (simp [entryFrame, mkF, argsToLocals, Value.category]; done) | rfl
def Q30 (Z : State) (a1 : Addr) (N : Nat) (B : Nat → Int32) (i : Nat) (h0 : Heap) (n0 : Nat) (v : Option Value) (h : Heap) (L : List Loc) : Prop := v = some (.int (D16 (B (2 * i)) (B ((2 * i) + 1)))) ∧ Fr n0 L ∧ h = h0
set_option maxRecDepth 65536 in
set_option maxHeartbeats 40000000 in
theorem rm30 (l : Launch) (Z : State) (a0 : Array Value) (hw : ∀ d ∈ tables_1, d.before a0 Z = true) (ws : List Jvm.Cond) (a1 : Addr) (N : Nat) (B : Nat → Int32) (i : Nat) (h0 : Heap) (n0 : Nat) (Z0 : n0 ≤ h0.size) (OLD : Old Z n0 h0) (S_a : Sta Z Z.heap "java/lang/StringUTF16" "$assertionsDisabled" "Z" (.int (1 : Int32))) (S_h : Sta Z Z.heap "java/lang/StringUTF16" "HI_BYTE_SHIFT" "I" (.int (0 : Int32))) (S_l : Sta Z Z.heap "java/lang/StringUTF16" "LO_BYTE_SHIFT" "I" (.int (8 : Int32))) (hN : N ≤ 100) (hi : i < N) (FA : ArF Z h0 a1 .byte (2 * N) B) :
    MetFree l (⟨"java/lang/StringUTF16", "getChar", "([BI)C"⟩ : MethodName) (head1 (Jvm.Cond.code (⟨"java/lang/StringUTF16", "getChar", "([BI)C"⟩ : MethodName) jdk_52_method_5_code 2 (some .char) :: ws) ({ frames := 0, cells := 0, slots := 0, locals := 0 } : Room)) (fun a U => a = #[(.ref a1), (.int (Int32.ofNat i))] ∧ Z.Warmed39 U.vm ∧ U.heap = h0) (fun _ _ _ _ _ => True) (fun _ U oo U' => ∃ v L, oo = .returned v ∧ Q30 Z a1 N B i h0 n0 v U'.heap L ∧ FrameEnd U oo U' L ({ frames := 0, cells := 0, slots := 0, locals := 0 } : Room).cells ({ frames := 0, cells := 0, slots := 0, locals := 0 } : Room).slots) := by
  refine MetFree.of_bodySF (plainFor_of_name pn_30) hisR ?_
  intro p e s m args below meth c s₁ Bd hml0 hP hK
  obtain ⟨rfl, hZ, hh⟩ := hP
  have hx := Bd.exec
  have hby := Bd.bytes
  have hml : c.maxLocals = 2 := hml0
  have hown : s.vm.findClass "java/lang/StringUTF16" = some m.cls := findClass_of_methodNamed Bd.named
  have hnm := (name_of_methodNamed Bd.named Bd.method).1
  have X0 : Stand p l e ({ frames := 0, cells := 0, slots := 0, locals := 0 } : Room) s m #[(.ref a1), (.int (Int32.ofNat i))] below meth c s₁ [] 0 0 := Stand.of_body Bd
  have e0 : s₁.heap = h0 := by rw [← hh, Bd.state]; rfl
  have N0 := Fr.nil n0
  have K0 : Keep h0 h0 [] := Keep.refl _ _
  have pre0 : ∀ tg, Steps p.tables e below (s₁.setTop (mkF m 0 #[.val (.ref a1), .val (.int (Int32.ofNat i))] [])) tg → Steps p.tables e below (s₁.setTop (entryFrame m #[(.ref a1), (.int (Int32.ofNat i))] 2)) tg := fun tg k => castTop (ef_30 m a1 (Int32.ofNat i)) k
  obtain ⟨T1, X1, e1, st1⟩ := getS2 X0 hx hZ hown (host := "") (Or.inl (hw _ (List.mem_of_getElem? (i := 126) rfl))) Via.refl e0 (Sta.ext OLD.2 S_a) (g := (mkF m 0 #[.val (.ref a1), .val (.int (Int32.ofNat i))] [])) rfl (hb hby d30_0)
  have st2 : ∀ tg, Steps p.tables e below (T1.setTop (mkF m 31 #[.val (.ref a1), .val (.int (Int32.ofNat i))] [(.int ((Int32.ofNat i) <<< ((1 : Int32) &&& 31)))])) tg → Steps p.tables e below (T1.setTop (mkF m 3 #[.val (.ref a1), .val (.int (Int32.ofNat i))] [(.int (1 : Int32))])) tg := by
    intro tg kt
    refine XS.ifYes X1.here hx rfl (pc0 := 3) (pc' := 28) rfl (hb hby d30_3) rfl (XT.i0_ne_t (by decide)) (by decide) (by decide) ?_
    refine XS.iloadN X1.here hx rfl (hb hby d30_28) rfl ?_
    refine XS.iconst X1.here hx rfl (hb hby d30_29) ?_
    refine XS.ishl X1.here hx rfl (hb hby d30_30) rfl ?_
    exact kt
  have eq3 : ((Int32.ofNat i) <<< ((1 : Int32) &&& 31)) = (Int32.ofNat (2 * i)) := own_shl (by omega)
  rw [eq3] at st2
  have st5 : ∀ tg, Steps p.tables e below (T1.setTop (mkF m 37 #[.val (.ref a1), .val (.int (Int32.ofNat ((2 * i) + 1)))] [(.int (Int32.ofNat (2 * i))), (.ref a1)])) tg → Steps p.tables e below (T1.setTop (mkF m 31 #[.val (.ref a1), .val (.int (Int32.ofNat i))] [(.int (Int32.ofNat (2 * i)))])) tg := by
    intro tg kt
    refine XS.istoreN X1.here hx rfl (hb hby d30_31) rfl (l' := #[.val (.ref a1), .val (.int (Int32.ofNat (2 * i)))]) rfl ?_
    refine XS.aloadN X1.here hx rfl (hb hby d30_32) rfl rfl ?_
    refine XS.iloadN X1.here hx rfl (hb hby d30_33) rfl ?_
    refine XS.iinc X1.here hx rfl (hb hby d30_34) rfl (l' := #[.val (.ref a1), .val (.int (Int32.ofNat (2 * i) + (1 : Int32)))]) rfl ?_
    rw [show (Int32.ofNat (2 * i) + (1 : Int32)) = Int32.ofNat ((2 * i) + 1) from own_addn _ _]
    exact kt
  obtain ⟨cl4, Ar4, Sa4, Ha4⟩ := id FA
  have hin4 : ¬ (Int32.ofNat (2 * i) < 0 ∨ cl4.slots.size ≤ (Int32.ofNat (2 * i)).toNatClampNeg) := own_in (by omega) (by omega) Sa4
  have hat4 : cl4.slots[(Int32.ofNat (2 * i)).toNatClampNeg]? = some (.int (B (2 * i))) := own_at (by omega) (by omega) Ha4
  have st6 : ∀ tg, Steps p.tables e below (T1.setTop (mkF m 42 #[.val (.ref a1), .val (.int (Int32.ofNat ((2 * i) + 1)))] [(.int ((B (2 * i)) &&& (255 : Int32)))])) tg → Steps p.tables e below (T1.setTop (mkF m 37 #[.val (.ref a1), .val (.int (Int32.ofNat ((2 * i) + 1)))] [(.int (Int32.ofNat (2 * i))), (.ref a1)])) tg := by
    intro tg kt
    refine X1.baloadBytes hx (j := Int32.ofNat (2 * i)) (v := (.int (B (2 * i)))) (by rw [e1]; exact Ar4.1) (State.isArrayOf_alike hZ.alike Ar4.2.1) Ar4.2.2 hin4 hat4 (g := (mkF m 37 #[.val (.ref a1), .val (.int (Int32.ofNat ((2 * i) + 1)))] [(.int (Int32.ofNat (2 * i))), (.ref a1)])) rfl rfl (hb hby d30_37) _ ?_
    refine XS.sipush X1.here hx rfl (hb hby d30_38) ?_
    refine XS.iand X1.here hx rfl (hb hby d30_41) rfl ?_
    exact kt
  obtain ⟨T7, X7, e7, st7⟩ := getS2 X1 hx hZ hown (host := "") (Or.inl (hw _ (List.mem_of_getElem? (i := 127) rfl))) Via.refl e1 (Sta.ext OLD.2 S_h) (g := (mkF m 42 #[.val (.ref a1), .val (.int (Int32.ofNat ((2 * i) + 1)))] [(.int ((B (2 * i)) &&& (255 : Int32)))])) rfl (hb hby d30_42)
  have st9 : ∀ tg, Steps p.tables e below (T7.setTop (mkF m 48 #[.val (.ref a1), .val (.int (Int32.ofNat ((2 * i) + 1)))] [(.int (Int32.ofNat ((2 * i) + 1))), (.ref a1), (.int (((B (2 * i)) &&& (255 : Int32)) <<< ((0 : Int32) &&& 31)))])) tg → Steps p.tables e below (T7.setTop (mkF m 45 #[.val (.ref a1), .val (.int (Int32.ofNat ((2 * i) + 1)))] [(.int (0 : Int32)), (.int ((B (2 * i)) &&& (255 : Int32)))])) tg := by
    intro tg kt
    refine XS.ishl X7.here hx rfl (hb hby d30_45) rfl ?_
    refine XS.aloadN X7.here hx rfl (hb hby d30_46) rfl rfl ?_
    refine XS.iloadN X7.here hx rfl (hb hby d30_47) rfl ?_
    exact kt
  obtain ⟨cl8, Ar8, Sa8, Ha8⟩ := id FA
  have hin8 : ¬ (Int32.ofNat ((2 * i) + 1) < 0 ∨ cl8.slots.size ≤ (Int32.ofNat ((2 * i) + 1)).toNatClampNeg) := own_in (by omega) (by omega) Sa8
  have hat8 : cl8.slots[(Int32.ofNat ((2 * i) + 1)).toNatClampNeg]? = some (.int (B ((2 * i) + 1))) := own_at (by omega) (by omega) Ha8
  have st10 : ∀ tg, Steps p.tables e below (T7.setTop (mkF m 53 #[.val (.ref a1), .val (.int (Int32.ofNat ((2 * i) + 1)))] [(.int ((B ((2 * i) + 1)) &&& (255 : Int32))), (.int (((B (2 * i)) &&& (255 : Int32)) <<< ((0 : Int32) &&& 31)))])) tg → Steps p.tables e below (T7.setTop (mkF m 48 #[.val (.ref a1), .val (.int (Int32.ofNat ((2 * i) + 1)))] [(.int (Int32.ofNat ((2 * i) + 1))), (.ref a1), (.int (((B (2 * i)) &&& (255 : Int32)) <<< ((0 : Int32) &&& 31)))])) tg := by
    intro tg kt
    refine X7.baloadBytes hx (j := Int32.ofNat ((2 * i) + 1)) (v := (.int (B ((2 * i) + 1)))) (by rw [e7]; exact Ar8.1) (State.isArrayOf_alike hZ.alike Ar8.2.1) Ar8.2.2 hin8 hat8 (g := (mkF m 48 #[.val (.ref a1), .val (.int (Int32.ofNat ((2 * i) + 1)))] [(.int (Int32.ofNat ((2 * i) + 1))), (.ref a1), (.int (((B (2 * i)) &&& (255 : Int32)) <<< ((0 : Int32) &&& 31)))])) rfl rfl (hb hby d30_48) _ ?_
    refine XS.sipush X7.here hx rfl (hb hby d30_49) ?_
    refine XS.iand X7.here hx rfl (hb hby d30_52) rfl ?_
    exact kt
  obtain ⟨T11, X11, e11, st11⟩ := getS2 X7 hx hZ hown (host := "") (Or.inl (hw _ (List.mem_of_getElem? (i := 128) rfl))) Via.refl e7 (Sta.ext OLD.2 S_l) (g := (mkF m 53 #[.val (.ref a1), .val (.int (Int32.ofNat ((2 * i) + 1)))] [(.int ((B ((2 * i) + 1)) &&& (255 : Int32))), (.int (((B (2 * i)) &&& (255 : Int32)) <<< ((0 : Int32) &&& 31)))])) rfl (hb hby d30_53)
  have st12 : ∀ tg, Steps p.tables e below (T11.setTop (mkF m 59 #[.val (.ref a1), .val (.int (Int32.ofNat ((2 * i) + 1)))] [(.int (((((B (2 * i)) &&& (255 : Int32)) <<< ((0 : Int32) &&& 31)) ||| (((B ((2 * i) + 1)) &&& (255 : Int32)) <<< ((8 : Int32) &&& 31))).toUInt32.toUInt16.toUInt32.toInt32))])) tg → Steps p.tables e below (T11.setTop (mkF m 56 #[.val (.ref a1), .val (.int (Int32.ofNat ((2 * i) + 1)))] [(.int (8 : Int32)), (.int ((B ((2 * i) + 1)) &&& (255 : Int32))), (.int (((B (2 * i)) &&& (255 : Int32)) <<< ((0 : Int32) &&& 31)))])) tg := by
    intro tg kt
    refine XS.ishl X11.here hx rfl (hb hby d30_56) rfl ?_
    refine XS.ior X11.here hx rfl (hb hby d30_57) rfl ?_
    refine XS.i2c X11.here hx rfl (hb hby d30_58) rfl ?_
    exact kt
  obtain ⟨fs, hr, hrun, hended, hW, hsame⟩ := X11.leave (v := some (.int (nar .char (((((B (2 * i)) &&& (255 : Int32)) <<< ((0 : Int32) &&& 31)) ||| (((B ((2 * i) + 1)) &&& (255 : Int32)) <<< ((8 : Int32) &&& 31))).toUInt32.toUInt16.toUInt32.toInt32)))) (fun h => by rw [Bd.returns] at h; cases h)
  refine ⟨_, _, pre0 _ ?_, hrun, hended, _, _, rfl, ?_, ⟨_, rfl⟩, hW, hsame.mono (by decide) (by decide)⟩
  · show Steps p.tables e below (s₁.setTop (mkF m 0 #[.val (.ref a1), .val (.int (Int32.ofNat i))] [])) _
    refine st1 _ ?_
    refine st2 _ ?_
    refine st5 _ ?_
    refine st6 _ ?_
    show Steps p.tables e below (T1.setTop (mkF m 42 #[.val (.ref a1), .val (.int (Int32.ofNat ((2 * i) + 1)))] [(.int ((B (2 * i)) &&& (255 : Int32)))])) _
    refine st7 _ ?_
    refine st9 _ ?_
    refine st10 _ ?_
    show Steps p.tables e below (T7.setTop (mkF m 53 #[.val (.ref a1), .val (.int (Int32.ofNat ((2 * i) + 1)))] [(.int ((B ((2 * i) + 1)) &&& (255 : Int32))), (.int (((B (2 * i)) &&& (255 : Int32)) <<< ((0 : Int32) &&& 31)))])) _
    refine st11 _ ?_
    refine st12 _ ?_
    show Steps p.tables e below (T11.setTop (mkF m 59 #[.val (.ref a1), .val (.int (Int32.ofNat ((2 * i) + 1)))] [(.int (((((B (2 * i)) &&& (255 : Int32)) <<< ((0 : Int32) &&& 31)) ||| (((B ((2 * i) + 1)) &&& (255 : Int32)) <<< ((8 : Int32) &&& 31))).toUInt32.toUInt16.toUInt32.toInt32))])) _
    exact retN X11 hx (t := .char) Bd.returns (by simp) (hb hby d30_59) hr
  · show Q30 Z a1 N B i h0 n0 _ T11.heap _
    rw [e11]
    refine ⟨?_, N0, rfl⟩
    exact congrArg (fun z => some (Value.int z)) (rfl)
theorem d39_0 : decode jdk_52_method_91_code 0 = .ok (.iload_n 0, 1) := by decide +kernel
theorem d39_1 : decode jdk_52_method_91_code 1 = .ok (.aload_n 1, 1) := by decide +kernel
theorem d39_2 : decode jdk_52_method_91_code 2 = .ok (.invokestatic 48, 3) := by decide +kernel
theorem d39_5 : decode jdk_52_method_91_code 5 = .ok (.invokestatic 414, 3) := by decide +kernel
theorem d39_8 : decode jdk_52_method_91_code 8 = .ok (.return_, 1) := by decide +kernel
theorem pn_39 : plainName "java/lang/StringUTF16" = true := by first | (simp [plainName, overriddenIn]; done) | decide +kernel
theorem ef_39 (m : MethodId) (y0 : Int32) (a2 : Addr) : entryFrame m #[(.int y0), (.ref a2)] 2 = mkF m 0 #[.val (.int y0), .val (.ref a2)] [] := by first | (simp [entryFrame, mkF, argsToLocals, Value.category]; done) | rfl
def Q39 (Z : State) (a2 : Addr) (N : Nat) (B : Nat → Int32) (i : Nat) (fm : Value) (h0 : Heap) (n0 : Nat) (v : Option Value) (h : Heap) (L : List Loc) : Prop := v = none ∧ Fr n0 L ∧ h = h0
set_option maxRecDepth 65536 in
set_option maxHeartbeats 40000000 in
theorem rm39 (l : Launch) (Z : State) (a0 : Array Value) (hw : ∀ d ∈ tables_1, d.before a0 Z = true) (ws : List Jvm.Cond) (a2 : Addr) (N : Nat) (B : Nat → Int32) (i : Nat) (fm : Value) (h0 : Heap) (n0 : Nat) (Z0 : n0 ≤ h0.size) (OLD : Old Z n0 h0) (hfm : fm.isRef = true) (S_f : Sta Z Z.heap "jdk/internal/util/Preconditions" "SIOOBE_FORMATTER" "Ljava/util/function/BiFunction;" fm) (hN : N ≤ 100) (hi : i < N) (FA : ArF Z h0 a2 .byte (2 * N) B) :
    MetFree l (⟨"java/lang/StringUTF16", "checkIndex", "(I[B)V"⟩ : MethodName) (head1 (Jvm.Cond.code (⟨"java/lang/StringUTF16", "checkIndex", "(I[B)V"⟩ : MethodName) jdk_52_method_91_code 2 none :: ws) ({ frames := 2, cells := 0, slots := 0, locals := 27 } : Room)) (fun a U => a = #[(.int (Int32.ofNat i)), (.ref a2)] ∧ Z.Warmed39 U.vm ∧ U.heap = h0) (fun _ _ _ _ _ => True) (fun _ U oo U' => ∃ v L, oo = .returned v ∧ Q39 Z a2 N B i fm h0 n0 v U'.heap L ∧ FrameEnd U oo U' L ({ frames := 2, cells := 0, slots := 0, locals := 27 } : Room).cells ({ frames := 2, cells := 0, slots := 0, locals := 27 } : Room).slots) := by
  refine MetFree.of_bodySF (plainFor_of_name pn_39) hisR ?_
  intro p e s m args below meth c s₁ Bd hml0 hP hK
  obtain ⟨rfl, hZ, hh⟩ := hP
  have hx := Bd.exec
  have hby := Bd.bytes
  have hml : c.maxLocals = 2 := hml0
  have hown : s.vm.findClass "java/lang/StringUTF16" = some m.cls := findClass_of_methodNamed Bd.named
  have hnm := (name_of_methodNamed Bd.named Bd.method).1
  have X0 : Stand p l e ({ frames := 2, cells := 0, slots := 0, locals := 27 } : Room) s m #[(.int (Int32.ofNat i)), (.ref a2)] below meth c s₁ [] 0 0 := Stand.of_body Bd
  have e0 : s₁.heap = h0 := by rw [← hh, Bd.state]; rfl
  have N0 := Fr.nil n0
  have K0 : Keep h0 h0 [] := Keep.refl _ _
  have pre0 : ∀ tg, Steps p.tables e below (s₁.setTop (mkF m 0 #[.val (.int (Int32.ofNat i)), .val (.ref a2)] [])) tg → Steps p.tables e below (s₁.setTop (entryFrame m #[(.int (Int32.ofNat i)), (.ref a2)] 2)) tg := fun tg k => castTop (ef_39 m (Int32.ofNat i) a2) k
  have st1 : ∀ tg, Steps p.tables e below (s₁.setTop (mkF m 2 #[.val (.int (Int32.ofNat i)), .val (.ref a2)] [(.ref a2), (.int (Int32.ofNat i))])) tg → Steps p.tables e below (s₁.setTop (mkF m 0 #[.val (.int (Int32.ofNat i)), .val (.ref a2)] [])) tg := by
    intro tg kt
    refine XS.iloadN X0.here hx rfl (hb hby d39_0) rfl ?_
    refine XS.aloadN X0.here hx rfl (hb hby d39_1) rfl rfl ?_
    exact kt
  obtain ⟨_, _, ⟨T2, L2, k2, n2⟩, -, X2, ⟨Lc2, hQ2, l2, y2, z2⟩, st2⟩ := Jvm.LawKit.callS X0 hx (y := (⟨"java/lang/StringUTF16", "length", "([B)I"⟩ : MethodName)) hown (mvT hZ (hw _ (List.mem_of_getElem? (i := 144) rfl))) (mvT hZ (hw _ (List.mem_of_getElem? (i := 145) rfl))) (mvT hZ (hw _ (List.mem_of_getElem? (i := 94) rfl))) (mvT hZ (hw _ (List.mem_of_getElem? (i := 146) rfl))) (by decide) (backOf (W := 1) (rm34 l Z a0 hw [] a2 N B h0 n0 Z0 hN FA) hZ (hw _ (List.mem_of_getElem? (i := 146) rfl)) (hw _ (List.mem_of_getElem? (i := 94) rfl)) (by decide) (by decide)) (g := (mkF m 2 #[.val (.int (Int32.ofNat i)), .val (.ref a2)] [(.ref a2), (.int (Int32.ofNat i))])) rfl (by rw [hml]; rfl) (argsL := [(.ref a2)]) (rest := [(.int (Int32.ofNat i))]) (lenOf pd_4 rfl) rfl (by show 2 * 0 + _ ≤ _; exact Nat.le_of_eq rfl) (hb hby d39_2) (fun _ _ => ⟨rfl, e0, (by decide : 0 + 0 ≤ _), (by decide : 0 + 0 ≤ _)⟩)
  dsimp only [Pt.U, Pt.locs, Pt.cells, Pt.slots] at X2 l2 y2 z2 st2 hQ2
  subst l2 y2 z2
  obtain ⟨rfl, N2q, e2⟩ := hQ2
  have N2 := Fr.app N0 N2q
  obtain ⟨_, _, ⟨T3, L3, k3, n3⟩, -, X3, ⟨Lc3, hQ3, l3, y3, z3⟩, st3⟩ := Jvm.LawKit.callS X2 hx (y := (⟨"java/lang/String", "checkIndex", "(II)V"⟩ : MethodName)) hown (mvT hZ (hw _ (List.mem_of_getElem? (i := 162) rfl))) (mvT hZ (hw _ (List.mem_of_getElem? (i := 33) rfl))) (mvT hZ (hw _ (List.mem_of_getElem? (i := 8) rfl))) (mvT hZ (hw _ (List.mem_of_getElem? (i := 34) rfl))) (by decide) (backOf (W := 0) (rm5c l Z a0 hw [] (Int32.ofNat i) (Int32.ofNat N) fm h0 n0 Z0 OLD hfm S_f (own_nn (by omega)) ((own_lt (by omega) (by omega)).mpr hi)) hZ (hw _ (List.mem_of_getElem? (i := 34) rfl)) (hw _ (List.mem_of_getElem? (i := 8) rfl)) (by decide) (by decide)) (g := (mkF m 5 #[.val (.int (Int32.ofNat i)), .val (.ref a2)] [(.int (Int32.ofNat N)), (.int (Int32.ofNat i))])) rfl (by rw [hml]; rfl) (argsL := [(.int (Int32.ofNat i)), (.int (Int32.ofNat N))]) (rest := []) (lenOf pd_3 rfl) rfl (by show 2 * 0 + _ ≤ _; exact Nat.le_of_eq rfl) (hb hby d39_5) (fun _ _ => ⟨rfl, e2, (by decide : 0 + 0 ≤ _), (by decide : 0 + 0 ≤ _)⟩)
  dsimp only [Pt.U, Pt.locs, Pt.cells, Pt.slots] at X3 l3 y3 z3 st3 hQ3
  subst l3 y3 z3
  obtain ⟨rfl, N3q, e3⟩ := hQ3
  have N3 := Fr.app N2 N3q
  obtain ⟨fs, hr, hrun, hended, hW, hsame⟩ := X3.leave (v := none) (fun _ => rfl)
  refine ⟨_, _, pre0 _ ?_, hrun, hended, _, _, rfl, ?_, ⟨_, rfl⟩, hW, hsame.mono (by decide) (by decide)⟩
  · refine st1 _ ?_
    show Steps p.tables e below (s₁.setTop (mkF m 2 #[.val (.int (Int32.ofNat i)), .val (.ref a2)] [(.ref a2), (.int (Int32.ofNat i))])) _
    refine st2 _ ?_
    show Steps p.tables e below (T2.setTop (mkF m 5 #[.val (.int (Int32.ofNat i)), .val (.ref a2)] [(.int (Int32.ofNat N)), (.int (Int32.ofNat i))])) _
    refine st3 _ ?_
    show Steps p.tables e below (T3.setTop (mkF m 8 #[.val (.int (Int32.ofNat i)), .val (.ref a2)] [])) _
    exact X3.returnOut hx Bd.returns (hb hby d39_8) hr
  · show Q39 Z a2 N B i fm h0 n0 _ T3.heap _
    rw [e3]
    exact ⟨rfl, N3, rfl⟩
theorem d38_0 : decode jdk_52_method_83_code 0 = .ok (.iload_n 1, 1) := by decide +kernel
theorem d38_1 : decode jdk_52_method_83_code 1 = .ok (.aload_n 0, 1) := by decide +kernel
theorem d38_2 : decode jdk_52_method_83_code 2 = .ok (.invokestatic 67, 3) := by decide +kernel
theorem d38_5 : decode jdk_52_method_83_code 5 = .ok (.aload_n 0, 1) := by decide +kernel
theorem d38_6 : decode jdk_52_method_83_code 6 = .ok (.iload_n 1, 1) := by decide +kernel
theorem d38_7 : decode jdk_52_method_83_code 7 = .ok (.invokestatic 71, 3) := by decide +kernel
theorem d38_10 : decode jdk_52_method_83_code 10 = .ok (.ireturn, 1) := by decide +kernel
theorem pn_38 : plainName "java/lang/StringUTF16" = true := by first | (simp [plainName, overriddenIn]; done) | decide +kernel
theorem ef_38 (m : MethodId) (a1 : Addr) (y1 : Int32) : entryFrame m #[(.ref a1), (.int y1)] 2 = mkF m 0 #[.val (.ref a1), .val (.int y1)] [] := by first | (simp [entryFrame, mkF, argsToLocals, Value.category]; done) | rfl
def Q38 (Z : State) (a1 : Addr) (N : Nat) (B : Nat → Int32) (i : Nat) (fm : Value) (h0 : Heap) (n0 : Nat) (v : Option Value) (h : Heap) (L : List Loc) : Prop := v = some (.int (nar .char (D16 (B (2 * i)) (B ((2 * i) + 1))))) ∧ Fr n0 L ∧ h = h0
set_option maxRecDepth 65536 in
set_option maxHeartbeats 40000000 in
theorem rm38 (l : Launch) (Z : State) (a0 : Array Value) (hw : ∀ d ∈ tables_1, d.before a0 Z = true) (ws : List Jvm.Cond) (a1 : Addr) (N : Nat) (B : Nat → Int32) (i : Nat) (fm : Value) (h0 : Heap) (n0 : Nat) (Z0 : n0 ≤ h0.size) (OLD : Old Z n0 h0) (hfm : fm.isRef = true) (S_f : Sta Z Z.heap "jdk/internal/util/Preconditions" "SIOOBE_FORMATTER" "Ljava/util/function/BiFunction;" fm) (S_a : Sta Z Z.heap "java/lang/StringUTF16" "$assertionsDisabled" "Z" (.int (1 : Int32))) (S_h : Sta Z Z.heap "java/lang/StringUTF16" "HI_BYTE_SHIFT" "I" (.int (0 : Int32))) (S_l : Sta Z Z.heap "java/lang/StringUTF16" "LO_BYTE_SHIFT" "I" (.int (8 : Int32))) (hN : N ≤ 100) (hi : i < N) (FA : ArF Z h0 a1 .byte (2 * N) B) :
    MetFree l (⟨"java/lang/StringUTF16", "charAt", "([BI)C"⟩ : MethodName) (head1 (Jvm.Cond.code (⟨"java/lang/StringUTF16", "charAt", "([BI)C"⟩ : MethodName) jdk_52_method_83_code 2 (some .char) :: ws) ({ frames := 3, cells := 0, slots := 0, locals := 40 } : Room)) (fun a U => a = #[(.ref a1), (.int (Int32.ofNat i))] ∧ Z.Warmed39 U.vm ∧ U.heap = h0) (fun _ _ _ _ _ => True) (fun _ U oo U' => ∃ v L, oo = .returned v ∧ Q38 Z a1 N B i fm h0 n0 v U'.heap L ∧ FrameEnd U oo U' L ({ frames := 3, cells := 0, slots := 0, locals := 40 } : Room).cells ({ frames := 3, cells := 0, slots := 0, locals := 40 } : Room).slots) := by
  refine MetFree.of_bodySF (plainFor_of_name pn_38) hisR ?_
  intro p e s m args below meth c s₁ Bd hml0 hP hK
  obtain ⟨rfl, hZ, hh⟩ := hP
  have hx := Bd.exec
  have hby := Bd.bytes
  have hml : c.maxLocals = 2 := hml0
  have hown : s.vm.findClass "java/lang/StringUTF16" = some m.cls := findClass_of_methodNamed Bd.named
  have hnm := (name_of_methodNamed Bd.named Bd.method).1
  have X0 : Stand p l e ({ frames := 3, cells := 0, slots := 0, locals := 40 } : Room) s m #[(.ref a1), (.int (Int32.ofNat i))] below meth c s₁ [] 0 0 := Stand.of_body Bd
  have e0 : s₁.heap = h0 := by rw [← hh, Bd.state]; rfl
  have N0 := Fr.nil n0
  have K0 : Keep h0 h0 [] := Keep.refl _ _
  have pre0 : ∀ tg, Steps p.tables e below (s₁.setTop (mkF m 0 #[.val (.ref a1), .val (.int (Int32.ofNat i))] [])) tg → Steps p.tables e below (s₁.setTop (entryFrame m #[(.ref a1), (.int (Int32.ofNat i))] 2)) tg := fun tg k => castTop (ef_38 m a1 (Int32.ofNat i)) k
  have st1 : ∀ tg, Steps p.tables e below (s₁.setTop (mkF m 2 #[.val (.ref a1), .val (.int (Int32.ofNat i))] [(.ref a1), (.int (Int32.ofNat i))])) tg → Steps p.tables e below (s₁.setTop (mkF m 0 #[.val (.ref a1), .val (.int (Int32.ofNat i))] [])) tg := by
    intro tg kt
    refine XS.iloadN X0.here hx rfl (hb hby d38_0) rfl ?_
    refine XS.aloadN X0.here hx rfl (hb hby d38_1) rfl rfl ?_
    exact kt
  obtain ⟨_, _, ⟨T2, L2, k2, n2⟩, -, X2, ⟨Lc2, hQ2, l2, y2, z2⟩, st2⟩ := Jvm.LawKit.callS X0 hx (y := (⟨"java/lang/StringUTF16", "checkIndex", "(I[B)V"⟩ : MethodName)) hown (mvT hZ (hw _ (List.mem_of_getElem? (i := 159) rfl))) (mvT hZ (hw _ (List.mem_of_getElem? (i := 160) rfl))) (mvT hZ (hw _ (List.mem_of_getElem? (i := 94) rfl))) (mvT hZ (hw _ (List.mem_of_getElem? (i := 161) rfl))) (by decide) (backOf (W := 0) (rm39 l Z a0 hw [] a1 N B i fm h0 n0 Z0 OLD hfm S_f hN hi FA) hZ (hw _ (List.mem_of_getElem? (i := 161) rfl)) (hw _ (List.mem_of_getElem? (i := 94) rfl)) (by decide) (by decide)) (g := (mkF m 2 #[.val (.ref a1), .val (.int (Int32.ofNat i))] [(.ref a1), (.int (Int32.ofNat i))])) rfl (by rw [hml]; rfl) (argsL := [(.int (Int32.ofNat i)), (.ref a1)]) (rest := []) (lenOf pd_5 rfl) rfl (by show 2 * 0 + _ ≤ _; exact Nat.le_of_eq rfl) (hb hby d38_2) (fun _ _ => ⟨rfl, e0, (by decide : 0 + 0 ≤ _), (by decide : 0 + 0 ≤ _)⟩)
  dsimp only [Pt.U, Pt.locs, Pt.cells, Pt.slots] at X2 l2 y2 z2 st2 hQ2
  subst l2 y2 z2
  obtain ⟨rfl, N2q, e2⟩ := hQ2
  have N2 := Fr.app N0 N2q
  have st3 : ∀ tg, Steps p.tables e below (T2.setTop (mkF m 7 #[.val (.ref a1), .val (.int (Int32.ofNat i))] [(.int (Int32.ofNat i)), (.ref a1)])) tg → Steps p.tables e below (T2.setTop (mkF m 5 #[.val (.ref a1), .val (.int (Int32.ofNat i))] [])) tg := by
    intro tg kt
    refine XS.aloadN X2.here hx rfl (hb hby d38_5) rfl rfl ?_
    refine XS.iloadN X2.here hx rfl (hb hby d38_6) rfl ?_
    exact kt
  obtain ⟨_, _, ⟨T4, L4, k4, n4⟩, -, X4, ⟨Lc4, hQ4, l4, y4, z4⟩, st4⟩ := Jvm.LawKit.callS X2 hx (y := (⟨"java/lang/StringUTF16", "getChar", "([BI)C"⟩ : MethodName)) hown (mvT hZ (hw _ (List.mem_of_getElem? (i := 129) rfl))) (mvT hZ (hw _ (List.mem_of_getElem? (i := 130) rfl))) (mvT hZ (hw _ (List.mem_of_getElem? (i := 94) rfl))) (mvT hZ (hw _ (List.mem_of_getElem? (i := 131) rfl))) (by decide) (backOf (W := 0) (rm30 l Z a0 hw [] a1 N B i h0 n0 Z0 OLD S_a S_h S_l hN hi FA) hZ (hw _ (List.mem_of_getElem? (i := 131) rfl)) (hw _ (List.mem_of_getElem? (i := 94) rfl)) (by decide) (by decide)) (g := (mkF m 7 #[.val (.ref a1), .val (.int (Int32.ofNat i))] [(.int (Int32.ofNat i)), (.ref a1)])) rfl (by rw [hml]; rfl) (argsL := [(.ref a1), (.int (Int32.ofNat i))]) (rest := []) (lenOf pd_6 rfl) rfl (by show 2 * 0 + _ ≤ _; exact Nat.le_of_eq rfl) (hb hby d38_7) (fun _ _ => ⟨rfl, e2, (by decide : 0 + 0 ≤ _), (by decide : 0 + 0 ≤ _)⟩)
  dsimp only [Pt.U, Pt.locs, Pt.cells, Pt.slots] at X4 l4 y4 z4 st4 hQ4
  subst l4 y4 z4
  obtain ⟨rfl, N4q, e4⟩ := hQ4
  have N4 := Fr.app N2 N4q
  obtain ⟨fs, hr, hrun, hended, hW, hsame⟩ := X4.leave (v := some (.int (nar .char (D16 (B (2 * i)) (B ((2 * i) + 1)))))) (fun h => by rw [Bd.returns] at h; cases h)
  refine ⟨_, _, pre0 _ ?_, hrun, hended, _, _, rfl, ?_, ⟨_, rfl⟩, hW, hsame.mono (by decide) (by decide)⟩
  · refine st1 _ ?_
    show Steps p.tables e below (s₁.setTop (mkF m 2 #[.val (.ref a1), .val (.int (Int32.ofNat i))] [(.ref a1), (.int (Int32.ofNat i))])) _
    refine st2 _ ?_
    refine st3 _ ?_
    show Steps p.tables e below (T2.setTop (mkF m 7 #[.val (.ref a1), .val (.int (Int32.ofNat i))] [(.int (Int32.ofNat i)), (.ref a1)])) _
    refine st4 _ ?_
    show Steps p.tables e below (T4.setTop (mkF m 10 #[.val (.ref a1), .val (.int (Int32.ofNat i))] [(.int (D16 (B (2 * i)) (B ((2 * i) + 1))))])) _
    exact retN X4 hx (t := .char) Bd.returns (by simp) (hb hby d38_10) hr
  · show Q38 Z a1 N B i fm h0 n0 _ T4.heap _
    rw [e4]
    refine ⟨?_, N4, rfl⟩
    exact congrArg (fun z => some (Value.int z)) (rfl)
theorem d2_0 : decode jdk_42_method_56_code 0 = .ok (.aload_n 0, 1) := by decide +kernel
theorem d2_1 : decode jdk_42_method_56_code 1 = .ok (.invokevirtual 492, 3) := by decide +kernel
theorem d2_4 : decode jdk_42_method_56_code 4 = .ok (.ifCond .eq 12, 3) := by decide +kernel
theorem d2_7 : decode jdk_42_method_56_code 7 = .ok (.aload_n 0, 1) := by decide +kernel
theorem d2_8 : decode jdk_42_method_56_code 8 = .ok (.getfield 9, 3) := by decide +kernel
theorem d2_11 : decode jdk_42_method_56_code 11 = .ok (.iload_n 1, 1) := by decide +kernel
theorem d2_12 : decode jdk_42_method_56_code 12 = .ok (.invokestatic 495, 3) := by decide +kernel
theorem d2_15 : decode jdk_42_method_56_code 15 = .ok (.ireturn, 1) := by decide +kernel
theorem pn_2 : plainName "java/lang/String" = true := by first | (simp [plainName, overriddenIn]; done) | decide +kernel
theorem ef_2l (m : MethodId) (a1 : Addr) (y1 : Int32) : entryFrame m #[(.ref a1), (.int y1)] 2 = mkF m 0 #[.val (.ref a1), .val (.int y1)] [] := by first | (simp [entryFrame, mkF, argsToLocals, Value.category]; done) | rfl
def Q2l (Z : State) (a1 : Addr) (t1 : Addr) (N : Nat) (B : Nat → Int32) (i : Nat) (wc : Int32) (fm : Value) (h0 : Heap) (n0 : Nat) (v : Option Value) (h : Heap) (L : List Loc) : Prop := v = some (.int (nar .char (D8 (B i)))) ∧ Fr n0 L ∧ h = h0
set_option maxRecDepth 65536 in
set_option maxHeartbeats 40000000 in
theorem rm2l (l : Launch) (Z : State) (a0 : Array Value) (hw : ∀ d ∈ tables_1, d.before a0 Z = true) (ws : List Jvm.Cond) (a1 : Addr) (t1 : Addr) (N : Nat) (B : Nat → Int32) (i : Nat) (wc : Int32) (fm : Value) (h0 : Heap) (n0 : Nat) (Z0 : n0 ≤ h0.size) (OLD : Old Z n0 h0) (S_c : Sta Z Z.heap "java/lang/String" "COMPACT_STRINGS" "Z" (.int wc)) (hwc : ¬ wc = 0) (hfm : fm.isRef = true) (S_f : Sta Z Z.heap "jdk/internal/util/Preconditions" "SIOOBE_FORMATTER" "Ljava/util/function/BiFunction;" fm) (S_a : Sta Z Z.heap "java/lang/StringUTF16" "$assertionsDisabled" "Z" (.int (1 : Int32))) (S_h : Sta Z Z.heap "java/lang/StringUTF16" "HI_BYTE_SHIFT" "I" (.int (0 : Int32))) (S_l : Sta Z Z.heap "java/lang/StringUTF16" "LO_BYTE_SHIFT" "I" (.int (8 : Int32))) (hN : N ≤ 100) (hi : i < N) (FE : Exa Z h0 a1 "java/lang/String") (FC : Fld Z h0 a1 "java/lang/String" "coder" "B" (.int (0 : Int32))) (FV : Fld Z h0 a1 "java/lang/String" "value" "[B" (.ref t1)) (FA : ArF Z h0 t1 .byte N B) :
    MetFree l (⟨"java/lang/String", "charAt", "(I)C"⟩ : MethodName) (head1 (Jvm.Cond.code (⟨"java/lang/String", "charAt", "(I)C"⟩ : MethodName) jdk_42_method_56_code 2 (some .char) :: ws) ({ frames := 4, cells := 0, slots := 0, locals := 70 } : Room)) (fun a U => a = #[(.ref a1), (.int (Int32.ofNat i))] ∧ Z.Warmed39 U.vm ∧ U.heap = h0) (fun _ _ _ _ _ => True) (fun _ U oo U' => ∃ v L, oo = .returned v ∧ Q2l Z a1 t1 N B i wc fm h0 n0 v U'.heap L ∧ FrameEnd U oo U' L ({ frames := 4, cells := 0, slots := 0, locals := 70 } : Room).cells ({ frames := 4, cells := 0, slots := 0, locals := 70 } : Room).slots) := by
  refine MetFree.of_bodySF (plainFor_of_name pn_2) hisR ?_
  intro p e s m args below meth c s₁ Bd hml0 hP hK
  obtain ⟨rfl, hZ, hh⟩ := hP
  have hx := Bd.exec
  have hby := Bd.bytes
  have hml : c.maxLocals = 2 := hml0
  have hown : s.vm.findClass "java/lang/String" = some m.cls := findClass_of_methodNamed Bd.named
  have hnm := (name_of_methodNamed Bd.named Bd.method).1
  have X0 : Stand p l e ({ frames := 4, cells := 0, slots := 0, locals := 70 } : Room) s m #[(.ref a1), (.int (Int32.ofNat i))] below meth c s₁ [] 0 0 := Stand.of_body Bd
  have e0 : s₁.heap = h0 := by rw [← hh, Bd.state]; rfl
  have N0 := Fr.nil n0
  have K0 : Keep h0 h0 [] := Keep.refl _ _
  have pre0 : ∀ tg, Steps p.tables e below (s₁.setTop (mkF m 0 #[.val (.ref a1), .val (.int (Int32.ofNat i))] [])) tg → Steps p.tables e below (s₁.setTop (entryFrame m #[(.ref a1), (.int (Int32.ofNat i))] 2)) tg := fun tg k => castTop (ef_2l m a1 (Int32.ofNat i)) k
  have st1 : ∀ tg, Steps p.tables e below (s₁.setTop (mkF m 1 #[.val (.ref a1), .val (.int (Int32.ofNat i))] [(.ref a1)])) tg → Steps p.tables e below (s₁.setTop (mkF m 0 #[.val (.ref a1), .val (.int (Int32.ofNat i))] [])) tg := by
    intro tg kt
    refine XS.aloadN X0.here hx rfl (hb hby d2_0) rfl rfl ?_
    exact kt
  obtain ⟨cq2, kq2, q2a, q2b, q2c⟩ := isOf hZ e0 FE
  obtain ⟨_, _, ⟨T2, L2, k2, n2⟩, -, X2, ⟨Lc2, hQ2, l2, y2, z2⟩, st2⟩ := X0.virtualBack hx (y := (⟨"java/lang/String", "isLatin1", "()Z"⟩ : MethodName)) (z := (⟨"java/lang/String", "isLatin1", "()Z"⟩ : MethodName)) hown (mvT hZ (hw _ (List.mem_of_getElem? (i := 20) rfl))) (mvT hZ (hw _ (List.mem_of_getElem? (i := 21) rfl))) (notFace_of_selects (args := #[]) (mvT hZ (hw _ (List.mem_of_getElem? (i := 23) rfl)))) (mvT hZ (hw _ (List.mem_of_getElem? (i := 23) rfl))) (mvT hZ (hw _ (List.mem_of_getElem? (i := 22) rfl))) (by decide) (backOf (W := 0) (rm3l l Z a0 hw [] a1 wc h0 n0 Z0 OLD S_c hwc FC) hZ (hw _ (List.mem_of_getElem? (i := 24) rfl)) (hw _ (List.mem_of_getElem? (i := 8) rfl)) (by decide) (by decide)) q2a q2c (g := (mkF m 1 #[.val (.ref a1), .val (.int (Int32.ofNat i))] [(.ref a1)])) rfl (by rw [hml]; rfl) (Steps.refl _) (argsL := []) (rest := []) (lenOf pd_7 rfl) rfl (by show 2 * 0 + _ ≤ _; exact Nat.le_of_eq rfl) (hb hby d2_1) (fun _ _ => ⟨rfl, e0, (by decide : 0 + 0 ≤ _), (by decide : 0 + 0 ≤ _)⟩)
  dsimp only [Pt.U, Pt.locs, Pt.cells, Pt.slots] at X2 l2 y2 z2 st2 hQ2
  subst l2 y2 z2
  obtain ⟨rfl, N2q, e2⟩ := hQ2
  have N2 := Fr.app N0 N2q
  have st3 : ∀ tg, Steps p.tables e below (T2.setTop (mkF m 8 #[.val (.ref a1), .val (.int (Int32.ofNat i))] [(.ref a1)])) tg → Steps p.tables e below (T2.setTop (mkF m 4 #[.val (.ref a1), .val (.int (Int32.ofNat i))] [(.int (1 : Int32))])) tg := by
    intro tg kt
    refine XS.ifNo X2.here hx rfl (hb hby d2_4) rfl (XT.i0_eq_f (by decide)) ?_
    refine XS.aloadN X2.here hx rfl (hb hby d2_7) rfl rfl ?_
    exact kt
  obtain ⟨T4, X4, e4, st4⟩ := getF X2 hx hZ hown (host := "") (Or.inl (hw _ (List.mem_of_getElem? (i := 27) rfl))) Via.refl e2 FV (g := (mkF m 8 #[.val (.ref a1), .val (.int (Int32.ofNat i))] [(.ref a1)])) rfl rfl (hb hby d2_8)
  have st5 : ∀ tg, Steps p.tables e below (T4.setTop (mkF m 12 #[.val (.ref a1), .val (.int (Int32.ofNat i))] [(.int (Int32.ofNat i)), (.ref t1)])) tg → Steps p.tables e below (T4.setTop (mkF m 11 #[.val (.ref a1), .val (.int (Int32.ofNat i))] [(.ref t1)])) tg := by
    intro tg kt
    refine XS.iloadN X4.here hx rfl (hb hby d2_11) rfl ?_
    exact kt
  obtain ⟨_, _, ⟨T6, L6, k6, n6⟩, -, X6, ⟨Lc6, hQ6, l6, y6, z6⟩, st6⟩ := Jvm.LawKit.callS X4 hx (y := (⟨"java/lang/StringLatin1", "charAt", "([BI)C"⟩ : MethodName)) hown (mvT hZ (hw _ (List.mem_of_getElem? (i := 28) rfl))) (mvT hZ (hw _ (List.mem_of_getElem? (i := 29) rfl))) (mvT hZ (hw _ (List.mem_of_getElem? (i := 30) rfl))) (mvT hZ (hw _ (List.mem_of_getElem? (i := 31) rfl))) (by decide) (backOf (W := 0) (rm4 l Z a0 hw [] t1 N B i fm h0 n0 Z0 OLD hfm S_f hN hi FA) hZ (hw _ (List.mem_of_getElem? (i := 31) rfl)) (hw _ (List.mem_of_getElem? (i := 30) rfl)) (by decide) (by decide)) (g := (mkF m 12 #[.val (.ref a1), .val (.int (Int32.ofNat i))] [(.int (Int32.ofNat i)), (.ref t1)])) rfl (by rw [hml]; rfl) (argsL := [(.ref t1), (.int (Int32.ofNat i))]) (rest := []) (lenOf pd_6 rfl) rfl (by show 2 * 0 + _ ≤ _; exact Nat.le_of_eq rfl) (hb hby d2_12) (fun _ _ => ⟨rfl, e4, (by decide : 0 + 0 ≤ _), (by decide : 0 + 0 ≤ _)⟩)
  dsimp only [Pt.U, Pt.locs, Pt.cells, Pt.slots] at X6 l6 y6 z6 st6 hQ6
  subst l6 y6 z6
  obtain ⟨rfl, N6q, e6⟩ := hQ6
  have N6 := Fr.app N2 N6q
  obtain ⟨fs, hr, hrun, hended, hW, hsame⟩ := X6.leave (v := some (.int (nar .char (D8 (B i))))) (fun h => by rw [Bd.returns] at h; cases h)
  refine ⟨_, _, pre0 _ ?_, hrun, hended, _, _, rfl, ?_, ⟨_, rfl⟩, hW, hsame.mono (by decide) (by decide)⟩
  · refine st1 _ ?_
    show Steps p.tables e below (s₁.setTop (mkF m 1 #[.val (.ref a1), .val (.int (Int32.ofNat i))] [(.ref a1)])) _
    refine st2.trans ?_
    refine st3 _ ?_
    show Steps p.tables e below (T2.setTop (mkF m 8 #[.val (.ref a1), .val (.int (Int32.ofNat i))] [(.ref a1)])) _
    refine st4 _ ?_
    refine st5 _ ?_
    show Steps p.tables e below (T4.setTop (mkF m 12 #[.val (.ref a1), .val (.int (Int32.ofNat i))] [(.int (Int32.ofNat i)), (.ref t1)])) _
    refine st6 _ ?_
    show Steps p.tables e below (T6.setTop (mkF m 15 #[.val (.ref a1), .val (.int (Int32.ofNat i))] [(.int (D8 (B i)))])) _
    exact retN X6 hx (t := .char) Bd.returns (by simp) (hb hby d2_15) hr
  · show Q2l Z a1 t1 N B i wc fm h0 n0 _ T6.heap _
    rw [e6]
    refine ⟨?_, N6, rfl⟩
    exact congrArg (fun z => some (Value.int z)) (rfl)
theorem d2_16 : decode jdk_42_method_56_code 16 = .ok (.aload_n 0, 1) := by decide +kernel
theorem d2_17 : decode jdk_42_method_56_code 17 = .ok (.getfield 9, 3) := by decide +kernel
theorem d2_20 : decode jdk_42_method_56_code 20 = .ok (.iload_n 1, 1) := by decide +kernel
theorem d2_21 : decode jdk_42_method_56_code 21 = .ok (.invokestatic 498, 3) := by decide +kernel
theorem d2_24 : decode jdk_42_method_56_code 24 = .ok (.ireturn, 1) := by decide +kernel
theorem ef_2u (m : MethodId) (a1 : Addr) (y1 : Int32) : entryFrame m #[(.ref a1), (.int y1)] 2 = mkF m 0 #[.val (.ref a1), .val (.int y1)] [] := by first | (simp [entryFrame, mkF, argsToLocals, Value.category]; done) | rfl
def Q2u (Z : State) (a1 : Addr) (t1 : Addr) (N : Nat) (B : Nat → Int32) (i : Nat) (wc : Int32) (fm : Value) (h0 : Heap) (n0 : Nat) (v : Option Value) (h : Heap) (L : List Loc) : Prop := v = some (.int (nar .char (nar .char (D16 (B (2 * i)) (B ((2 * i) + 1)))))) ∧ Fr n0 L ∧ h = h0
set_option maxRecDepth 65536 in
set_option maxHeartbeats 40000000 in
theorem rm2u (l : Launch) (Z : State) (a0 : Array Value) (hw : ∀ d ∈ tables_1, d.before a0 Z = true) (ws : List Jvm.Cond) (a1 : Addr) (t1 : Addr) (N : Nat) (B : Nat → Int32) (i : Nat) (wc : Int32) (fm : Value) (h0 : Heap) (n0 : Nat) (Z0 : n0 ≤ h0.size) (OLD : Old Z n0 h0) (S_c : Sta Z Z.heap "java/lang/String" "COMPACT_STRINGS" "Z" (.int wc)) (hwc : ¬ wc = 0) (hfm : fm.isRef = true) (S_f : Sta Z Z.heap "jdk/internal/util/Preconditions" "SIOOBE_FORMATTER" "Ljava/util/function/BiFunction;" fm) (S_a : Sta Z Z.heap "java/lang/StringUTF16" "$assertionsDisabled" "Z" (.int (1 : Int32))) (S_h : Sta Z Z.heap "java/lang/StringUTF16" "HI_BYTE_SHIFT" "I" (.int (0 : Int32))) (S_l : Sta Z Z.heap "java/lang/StringUTF16" "LO_BYTE_SHIFT" "I" (.int (8 : Int32))) (hN : N ≤ 100) (hi : i < N) (FE : Exa Z h0 a1 "java/lang/String") (FC : Fld Z h0 a1 "java/lang/String" "coder" "B" (.int (1 : Int32))) (FV : Fld Z h0 a1 "java/lang/String" "value" "[B" (.ref t1)) (FA : ArF Z h0 t1 .byte (2 * N) B) :
    MetFree l (⟨"java/lang/String", "charAt", "(I)C"⟩ : MethodName) (head1 (Jvm.Cond.code (⟨"java/lang/String", "charAt", "(I)C"⟩ : MethodName) jdk_42_method_56_code 2 (some .char) :: ws) ({ frames := 4, cells := 0, slots := 0, locals := 70 } : Room)) (fun a U => a = #[(.ref a1), (.int (Int32.ofNat i))] ∧ Z.Warmed39 U.vm ∧ U.heap = h0) (fun _ _ _ _ _ => True) (fun _ U oo U' => ∃ v L, oo = .returned v ∧ Q2u Z a1 t1 N B i wc fm h0 n0 v U'.heap L ∧ FrameEnd U oo U' L ({ frames := 4, cells := 0, slots := 0, locals := 70 } : Room).cells ({ frames := 4, cells := 0, slots := 0, locals := 70 } : Room).slots) := by
  refine MetFree.of_bodySF (plainFor_of_name pn_2) hisR ?_
  intro p e s m args below meth c s₁ Bd hml0 hP hK
  obtain ⟨rfl, hZ, hh⟩ := hP
  have hx := Bd.exec
  have hby := Bd.bytes
  have hml : c.maxLocals = 2 := hml0
  have hown : s.vm.findClass "java/lang/String" = some m.cls := findClass_of_methodNamed Bd.named
  have hnm := (name_of_methodNamed Bd.named Bd.method).1
  have X0 : Stand p l e ({ frames := 4, cells := 0, slots := 0, locals := 70 } : Room) s m #[(.ref a1), (.int (Int32.ofNat i))] below meth c s₁ [] 0 0 := Stand.of_body Bd
  have e0 : s₁.heap = h0 := by rw [← hh, Bd.state]; rfl
  have N0 := Fr.nil n0
  have K0 : Keep h0 h0 [] := Keep.refl _ _
  have pre0 : ∀ tg, Steps p.tables e below (s₁.setTop (mkF m 0 #[.val (.ref a1), .val (.int (Int32.ofNat i))] [])) tg → Steps p.tables e below (s₁.setTop (entryFrame m #[(.ref a1), (.int (Int32.ofNat i))] 2)) tg := fun tg k => castTop (ef_2u m a1 (Int32.ofNat i)) k
  have st1 : ∀ tg, Steps p.tables e below (s₁.setTop (mkF m 1 #[.val (.ref a1), .val (.int (Int32.ofNat i))] [(.ref a1)])) tg → Steps p.tables e below (s₁.setTop (mkF m 0 #[.val (.ref a1), .val (.int (Int32.ofNat i))] [])) tg := by
    intro tg kt
    refine XS.aloadN X0.here hx rfl (hb hby d2_0) rfl rfl ?_
    exact kt
  obtain ⟨cq2, kq2, q2a, q2b, q2c⟩ := isOf hZ e0 FE
  obtain ⟨_, _, ⟨T2, L2, k2, n2⟩, -, X2, ⟨Lc2, hQ2, l2, y2, z2⟩, st2⟩ := X0.virtualBack hx (y := (⟨"java/lang/String", "isLatin1", "()Z"⟩ : MethodName)) (z := (⟨"java/lang/String", "isLatin1", "()Z"⟩ : MethodName)) hown (mvT hZ (hw _ (List.mem_of_getElem? (i := 20) rfl))) (mvT hZ (hw _ (List.mem_of_getElem? (i := 21) rfl))) (notFace_of_selects (args := #[]) (mvT hZ (hw _ (List.mem_of_getElem? (i := 23) rfl)))) (mvT hZ (hw _ (List.mem_of_getElem? (i := 23) rfl))) (mvT hZ (hw _ (List.mem_of_getElem? (i := 22) rfl))) (by decide) (backOf (W := 0) (rm3u l Z a0 hw [] a1 wc h0 n0 Z0 OLD S_c hwc FC) hZ (hw _ (List.mem_of_getElem? (i := 24) rfl)) (hw _ (List.mem_of_getElem? (i := 8) rfl)) (by decide) (by decide)) q2a q2c (g := (mkF m 1 #[.val (.ref a1), .val (.int (Int32.ofNat i))] [(.ref a1)])) rfl (by rw [hml]; rfl) (Steps.refl _) (argsL := []) (rest := []) (lenOf pd_7 rfl) rfl (by show 2 * 0 + _ ≤ _; exact Nat.le_of_eq rfl) (hb hby d2_1) (fun _ _ => ⟨rfl, e0, (by decide : 0 + 0 ≤ _), (by decide : 0 + 0 ≤ _)⟩)
  dsimp only [Pt.U, Pt.locs, Pt.cells, Pt.slots] at X2 l2 y2 z2 st2 hQ2
  subst l2 y2 z2
  obtain ⟨rfl, N2q, e2⟩ := hQ2
  have N2 := Fr.app N0 N2q
  have st3 : ∀ tg, Steps p.tables e below (T2.setTop (mkF m 17 #[.val (.ref a1), .val (.int (Int32.ofNat i))] [(.ref a1)])) tg → Steps p.tables e below (T2.setTop (mkF m 4 #[.val (.ref a1), .val (.int (Int32.ofNat i))] [(.int (0 : Int32))])) tg := by
    intro tg kt
    refine XS.ifYes X2.here hx rfl (pc0 := 4) (pc' := 16) rfl (hb hby d2_4) rfl (XT.i0_eq_t (by decide)) (by decide) (by decide) ?_
    refine XS.aloadN X2.here hx rfl (hb hby d2_16) rfl rfl ?_
    exact kt
  obtain ⟨T4, X4, e4, st4⟩ := getF X2 hx hZ hown (host := "") (Or.inl (hw _ (List.mem_of_getElem? (i := 27) rfl))) Via.refl e2 FV (g := (mkF m 17 #[.val (.ref a1), .val (.int (Int32.ofNat i))] [(.ref a1)])) rfl rfl (hb hby d2_17)
  have st5 : ∀ tg, Steps p.tables e below (T4.setTop (mkF m 21 #[.val (.ref a1), .val (.int (Int32.ofNat i))] [(.int (Int32.ofNat i)), (.ref t1)])) tg → Steps p.tables e below (T4.setTop (mkF m 20 #[.val (.ref a1), .val (.int (Int32.ofNat i))] [(.ref t1)])) tg := by
    intro tg kt
    refine XS.iloadN X4.here hx rfl (hb hby d2_20) rfl ?_
    exact kt
  obtain ⟨_, _, ⟨T6, L6, k6, n6⟩, -, X6, ⟨Lc6, hQ6, l6, y6, z6⟩, st6⟩ := Jvm.LawKit.callS X4 hx (y := (⟨"java/lang/StringUTF16", "charAt", "([BI)C"⟩ : MethodName)) hown (mvT hZ (hw _ (List.mem_of_getElem? (i := 156) rfl))) (mvT hZ (hw _ (List.mem_of_getElem? (i := 157) rfl))) (mvT hZ (hw _ (List.mem_of_getElem? (i := 94) rfl))) (mvT hZ (hw _ (List.mem_of_getElem? (i := 158) rfl))) (by decide) (backOf (W := 0) (rm38 l Z a0 hw [] t1 N B i fm h0 n0 Z0 OLD hfm S_f S_a S_h S_l hN hi FA) hZ (hw _ (List.mem_of_getElem? (i := 158) rfl)) (hw _ (List.mem_of_getElem? (i := 94) rfl)) (by decide) (by decide)) (g := (mkF m 21 #[.val (.ref a1), .val (.int (Int32.ofNat i))] [(.int (Int32.ofNat i)), (.ref t1)])) rfl (by rw [hml]; rfl) (argsL := [(.ref t1), (.int (Int32.ofNat i))]) (rest := []) (lenOf pd_6 rfl) rfl (by show 2 * 0 + _ ≤ _; exact Nat.le_of_eq rfl) (hb hby d2_21) (fun _ _ => ⟨rfl, e4, (by decide : 0 + 0 ≤ _), (by decide : 0 + 0 ≤ _)⟩)
  dsimp only [Pt.U, Pt.locs, Pt.cells, Pt.slots] at X6 l6 y6 z6 st6 hQ6
  subst l6 y6 z6
  obtain ⟨rfl, N6q, e6⟩ := hQ6
  have N6 := Fr.app N2 N6q
  obtain ⟨fs, hr, hrun, hended, hW, hsame⟩ := X6.leave (v := some (.int (nar .char (nar .char (D16 (B (2 * i)) (B ((2 * i) + 1))))))) (fun h => by rw [Bd.returns] at h; cases h)
  refine ⟨_, _, pre0 _ ?_, hrun, hended, _, _, rfl, ?_, ⟨_, rfl⟩, hW, hsame.mono (by decide) (by decide)⟩
  · refine st1 _ ?_
    show Steps p.tables e below (s₁.setTop (mkF m 1 #[.val (.ref a1), .val (.int (Int32.ofNat i))] [(.ref a1)])) _
    refine st2.trans ?_
    refine st3 _ ?_
    show Steps p.tables e below (T2.setTop (mkF m 17 #[.val (.ref a1), .val (.int (Int32.ofNat i))] [(.ref a1)])) _
    refine st4 _ ?_
    refine st5 _ ?_
    show Steps p.tables e below (T4.setTop (mkF m 21 #[.val (.ref a1), .val (.int (Int32.ofNat i))] [(.int (Int32.ofNat i)), (.ref t1)])) _
    refine st6 _ ?_
    show Steps p.tables e below (T6.setTop (mkF m 24 #[.val (.ref a1), .val (.int (Int32.ofNat i))] [(.int (nar .char (D16 (B (2 * i)) (B ((2 * i) + 1)))))])) _
    exact retN X6 hx (t := .char) Bd.returns (by simp) (hb hby d2_24) hr
  · show Q2u Z a1 t1 N B i wc fm h0 n0 _ T6.heap _
    rw [e6]
    refine ⟨?_, N6, rfl⟩
    exact congrArg (fun z => some (Value.int z)) (rfl)
def Q2c (Z : State) (a1 : Addr) (N : Nat) (C : Nat → Int32) (i : Nat) (wc : Int32) (fm : Value) (h0 : Heap) (n0 : Nat) (v : Option Value) (h : Heap) (L : List Loc) : Prop := v = some (.int (C i)) ∧ Fr n0 L ∧ h = h0
theorem rm2c (l : Launch) (Z : State) (a0 : Array Value) (hw : ∀ d ∈ tables_1, d.before a0 Z = true) (ws : List Jvm.Cond) (a1 : Addr) (N : Nat) (C : Nat → Int32) (i : Nat) (wc : Int32) (fm : Value) (h0 : Heap) (n0 : Nat) (Z0 : n0 ≤ h0.size) (OLD : Old Z n0 h0) (S_c : Sta Z Z.heap "java/lang/String" "COMPACT_STRINGS" "Z" (.int wc)) (hwc : ¬ wc = 0) (hfm : fm.isRef = true) (S_f : Sta Z Z.heap "jdk/internal/util/Preconditions" "SIOOBE_FORMATTER" "Ljava/util/function/BiFunction;" fm) (S_a : Sta Z Z.heap "java/lang/StringUTF16" "$assertionsDisabled" "Z" (.int (1 : Int32))) (S_h : Sta Z Z.heap "java/lang/StringUTF16" "HI_BYTE_SHIFT" "I" (.int (0 : Int32))) (S_l : Sta Z Z.heap "java/lang/StringUTF16" "LO_BYTE_SHIFT" "I" (.int (8 : Int32))) (hN : N ≤ 100) (hi : i < N) (HS : StrF Z h0 a1 N C) :
    MetFree l (⟨"java/lang/String", "charAt", "(I)C"⟩ : MethodName) (head1 (Jvm.Cond.code (⟨"java/lang/String", "charAt", "(I)C"⟩ : MethodName) jdk_42_method_56_code 2 (some .char) :: ws) ({ frames := 4, cells := 0, slots := 0, locals := 70 } : Room)) (fun a U => a = #[(.ref a1), (.int (Int32.ofNat i))] ∧ Z.Warmed39 U.vm ∧ U.heap = h0) (fun _ _ _ _ _ => True) (fun _ U oo U' => ∃ v L, oo = .returned v ∧ Q2c Z a1 N C i wc fm h0 n0 v U'.heap L ∧ FrameEnd U oo U' L ({ frames := 4, cells := 0, slots := 0, locals := 70 } : Room).cells ({ frames := 4, cells := 0, slots := 0, locals := 70 } : Room).slots) := by
  obtain ⟨t1, B, hC, HS | HS⟩ := HS
  · have q := rm2l l Z a0 hw ws a1 t1 N B i wc fm h0 n0 Z0 OLD S_c hwc hfm S_f S_a S_h S_l hN hi HS.1 HS.2.2.1 HS.2.1 HS.2.2.2.1
    have e : nar .char (D8 (B i)) = C i := by rw [(HS.2.2.2.2 i hi).1]; exact own_lat (C i) (hC i hi).1 (HS.2.2.2.2 i hi).2
    simp only [Q2l, e] at q
    exact q
  · have q := rm2u l Z a0 hw ws a1 t1 N B i wc fm h0 n0 Z0 OLD S_c hwc hfm S_f S_a S_h S_l hN hi HS.1 HS.2.2.1 HS.2.1 HS.2.2.2.1
    have e : nar .char (nar .char (D16 (B (2 * i)) (B ((2 * i) + 1)))) = C i := by
      rw [(HS.2.2.2.2 i hi).1, (HS.2.2.2.2 i hi).2, show D16 (Ulo (C i)) (Uhi (C i)) = C i from own_u16 (C i) (hC i hi).1 (hC i hi).2]
      simp only [nar, own_nc (C i) (hC i hi).1 (hC i hi).2]
    simp only [Q2u, e] at q
    exact q
theorem d23_0 : decode jdk_43_method_23_code 0 = .ok (.iload_n 1, 1) := by decide +kernel
theorem d23_1 : decode jdk_43_method_23_code 1 = .ok (.i2b, 1) := by decide +kernel
theorem d23_2 : decode jdk_43_method_23_code 2 = .ok (.istore 4, 2) := by decide +kernel
theorem d23_4 : decode jdk_43_method_23_code 4 = .ok (.iload_n 2, 1) := by decide +kernel
theorem d23_5 : decode jdk_43_method_23_code 5 = .ok (.istore 5, 2) := by decide +kernel
theorem d23_7 : decode jdk_43_method_23_code 7 = .ok (.iload 5, 2) := by decide +kernel
theorem d23_9 : decode jdk_43_method_23_code 9 = .ok (.iload_n 3, 1) := by decide +kernel
theorem d23_10 : decode jdk_43_method_23_code 10 = .ok (.if_icmp .ge 21, 3) := by decide +kernel
theorem d23_13 : decode jdk_43_method_23_code 13 = .ok (.aload_n 0, 1) := by decide +kernel
theorem d23_14 : decode jdk_43_method_23_code 14 = .ok (.iload 5, 2) := by decide +kernel
theorem d23_16 : decode jdk_43_method_23_code 16 = .ok (.baload, 1) := by decide +kernel
theorem d23_17 : decode jdk_43_method_23_code 17 = .ok (.iload 4, 2) := by decide +kernel
theorem d23_19 : decode jdk_43_method_23_code 19 = .ok (.if_icmp .ne 6, 3) := by decide +kernel
theorem d23_22 : decode jdk_43_method_23_code 22 = .ok (.iload 5, 2) := by decide +kernel
theorem d23_24 : decode jdk_43_method_23_code 24 = .ok (.ireturn, 1) := by decide +kernel
theorem d23_25 : decode jdk_43_method_23_code 25 = .ok (.iinc 5 1, 3) := by decide +kernel
theorem d23_28 : decode jdk_43_method_23_code 28 = .ok (.goto (-21), 3) := by decide +kernel
theorem d23_31 : decode jdk_43_method_23_code 31 = .ok (.iconst (-1), 1) := by decide +kernel
theorem d23_32 : decode jdk_43_method_23_code 32 = .ok (.ireturn, 1) := by decide +kernel
theorem pn_23 : plainName "java/lang/StringLatin1" = true := by first | (simp [plainName, overriddenIn]; done) | decide +kernel
theorem ef_23 (m : MethodId) (a1 : Addr) (y2 : Int32) (y3 : Int32) : entryFrame m #[(.ref a1), (.int (37 : Int32)), (.int y2), (.int y3)] 6 = mkF m 0 #[.val (.ref a1), .val (.int (37 : Int32)), .val (.int y2), .val (.int y3), .unset, .unset] [] := by first | (simp [entryFrame, mkF, argsToLocals, Value.category]; done) | rfl
def Q23 (Z : State) (a1 : Addr) (N : Nat) (B : Nat → Int32) (f : Nat) (h0 : Heap) (n0 : Nat) (v : Option Value) (h : Heap) (L : List Loc) : Prop := ∃ z : Int32, v = some (.int z) ∧ Fr n0 L ∧ h = h0 ∧ Idx N (fun j => (B j) = (37 : Int32)) f z
set_option maxRecDepth 65536 in
set_option maxHeartbeats 40000000 in
theorem rm23 (l : Launch) (Z : State) (a0 : Array Value) (hw : ∀ d ∈ tables_1, d.before a0 Z = true) (ws : List Jvm.Cond) (a1 : Addr) (N : Nat) (B : Nat → Int32) (f : Nat) (h0 : Heap) (n0 : Nat) (Z0 : n0 ≤ h0.size) (hN : N ≤ 100) (hf : f ≤ N) (FA : ArF Z h0 a1 .byte N B) :
    MetFree l (⟨"java/lang/StringLatin1", "indexOfChar", "([BIII)I"⟩ : MethodName) (head1 (Jvm.Cond.code (⟨"java/lang/StringLatin1", "indexOfChar", "([BIII)I"⟩ : MethodName) jdk_43_method_23_code 6 (some .int) :: ws) ({ frames := 0, cells := 0, slots := 0, locals := 0 } : Room)) (fun a U => a = #[(.ref a1), (.int (37 : Int32)), (.int (Int32.ofNat f)), (.int (Int32.ofNat N))] ∧ Z.Warmed39 U.vm ∧ U.heap = h0) (fun _ _ _ _ _ => True) (fun _ U oo U' => ∃ v L, oo = .returned v ∧ Q23 Z a1 N B f h0 n0 v U'.heap L ∧ FrameEnd U oo U' L ({ frames := 0, cells := 0, slots := 0, locals := 0 } : Room).cells ({ frames := 0, cells := 0, slots := 0, locals := 0 } : Room).slots) := by
  refine MetFree.of_bodySF (plainFor_of_name pn_23) hisR ?_
  intro p e s m args below meth c s₁ Bd hml0 hP hK
  obtain ⟨rfl, hZ, hh⟩ := hP
  have hx := Bd.exec
  have hby := Bd.bytes
  have hml : c.maxLocals = 6 := hml0
  have hown : s.vm.findClass "java/lang/StringLatin1" = some m.cls := findClass_of_methodNamed Bd.named
  have hnm := (name_of_methodNamed Bd.named Bd.method).1
  have X0 : Stand p l e ({ frames := 0, cells := 0, slots := 0, locals := 0 } : Room) s m #[(.ref a1), (.int (37 : Int32)), (.int (Int32.ofNat f)), (.int (Int32.ofNat N))] below meth c s₁ [] 0 0 := Stand.of_body Bd
  have e0 : s₁.heap = h0 := by rw [← hh, Bd.state]; rfl
  have N0 := Fr.nil n0
  have K0 : Keep h0 h0 [] := Keep.refl _ _
  have pre0 : ∀ tg, Steps p.tables e below (s₁.setTop (mkF m 0 #[.val (.ref a1), .val (.int (37 : Int32)), .val (.int (Int32.ofNat f)), .val (.int (Int32.ofNat N)), .unset, .unset] [])) tg → Steps p.tables e below (s₁.setTop (entryFrame m #[(.ref a1), (.int (37 : Int32)), (.int (Int32.ofNat f)), (.int (Int32.ofNat N))] 6)) tg := fun tg k => castTop (ef_23 m a1 (Int32.ofNat f) (Int32.ofNat N)) k
  refine Classical.byContradiction fun hG => ?_
  have st1 : ∀ tg, Steps p.tables e below (s₁.setTop (mkF m 7 #[.val (.ref a1), .val (.int (37 : Int32)), .val (.int (Int32.ofNat f)), .val (.int (Int32.ofNat N)), .val (.int (37 : Int32)), .val (.int (Int32.ofNat f))] [])) tg → Steps p.tables e below (s₁.setTop (mkF m 0 #[.val (.ref a1), .val (.int (37 : Int32)), .val (.int (Int32.ofNat f)), .val (.int (Int32.ofNat N)), .unset, .unset] [])) tg := by
    intro tg kt
    refine XS.iloadN X0.here hx rfl (hb hby d23_0) rfl ?_
    refine XS.i2b X0.here hx rfl (hb hby d23_1) rfl ?_
    refine XS.istore X0.here hx rfl (hb hby d23_2) rfl (l' := #[.val (.ref a1), .val (.int (37 : Int32)), .val (.int (Int32.ofNat f)), .val (.int (Int32.ofNat N)), .val (.int (37 : Int32)), .unset]) rfl ?_
    refine XS.iloadN X0.here hx rfl (hb hby d23_4) rfl ?_
    show Steps p.tables e below (s₁.setTop (mkF m 5 #[.val (.ref a1), .val (.int (37 : Int32)), .val (.int (Int32.ofNat f)), .val (.int (Int32.ofNat N)), .val (.int (37 : Int32)), .unset] [(.int (Int32.ofNat f))])) tg
    refine XS.istore X0.here hx rfl (hb hby d23_5) rfl (l' := #[.val (.ref a1), .val (.int (37 : Int32)), .val (.int (Int32.ofNat f)), .val (.int (Int32.ofNat N)), .val (.int (37 : Int32)), .val (.int (Int32.ofNat f))]) rfl ?_
    exact kt
  have lp2 : ∀ (k : Nat) (i : Nat) (Tp2 : State) (lc2 : List Loc), (N < i + k) → (i ≤ N) → (f ≤ i) → (∀ j, f ≤ j → j < i → ¬ ((fun j => (B j) = (37 : Int32)) j)) → Stand p l e ({ frames := 0, cells := 0, slots := 0, locals := 0 } : Room) s m #[(.ref a1), (.int (37 : Int32)), (.int (Int32.ofNat f)), (.int (Int32.ofNat N))] below meth c Tp2 lc2 0 0 → Tp2.heap = h0 → Fr n0 lc2 → (∀ tg, Steps p.tables e below (Tp2.setTop (mkF m 7 #[.val (.ref a1), .val (.int (37 : Int32)), .val (.int (Int32.ofNat f)), .val (.int (Int32.ofNat N)), .val (.int (37 : Int32)), .val (.int (Int32.ofNat i))] [])) tg → Steps p.tables e below (s₁.setTop (entryFrame m #[(.ref a1), (.int (37 : Int32)), (.int (Int32.ofNat f)), (.int (Int32.ofNat N))] 6)) tg) → False := by
    intro k
    induction k with
    | zero =>
      intro i Tp2 lc2 hk hi hfi hno
      intros; exfalso; omega
    | succ k ih =>
      intro i Tp2 lc2 hk hi hfi hno Xp2 ep2 Np2 pp2
      have st4 : ∀ tg, Steps p.tables e below (Tp2.setTop (mkF m 10 #[.val (.ref a1), .val (.int (37 : Int32)), .val (.int (Int32.ofNat f)), .val (.int (Int32.ofNat N)), .val (.int (37 : Int32)), .val (.int (Int32.ofNat i))] [(.int (Int32.ofNat N)), (.int (Int32.ofNat i))])) tg → Steps p.tables e below (Tp2.setTop (mkF m 7 #[.val (.ref a1), .val (.int (37 : Int32)), .val (.int (Int32.ofNat f)), .val (.int (Int32.ofNat N)), .val (.int (37 : Int32)), .val (.int (Int32.ofNat i))] [])) tg := by
        intro tg kt
        refine XS.iload Xp2.here hx rfl (hb hby d23_7) rfl ?_
        refine XS.iloadN Xp2.here hx rfl (hb hby d23_9) rfl ?_
        exact kt
      by_cases hc10_3 : (Int32.ofNat i) < (Int32.ofNat N)
      · -- pc 10: (Int32.ofNat i) < (Int32.ofNat N)
        have hc10_3n : i < N := (own_lt (by omega) (by omega)).mp hc10_3
        have st6 : ∀ tg, Steps p.tables e below (Tp2.setTop (mkF m 16 #[.val (.ref a1), .val (.int (37 : Int32)), .val (.int (Int32.ofNat f)), .val (.int (Int32.ofNat N)), .val (.int (37 : Int32)), .val (.int (Int32.ofNat i))] [(.int (Int32.ofNat i)), (.ref a1)])) tg → Steps p.tables e below (Tp2.setTop (mkF m 10 #[.val (.ref a1), .val (.int (37 : Int32)), .val (.int (Int32.ofNat f)), .val (.int (Int32.ofNat N)), .val (.int (37 : Int32)), .val (.int (Int32.ofNat i))] [(.int (Int32.ofNat N)), (.int (Int32.ofNat i))])) tg := by
          intro tg kt
          refine XS.icmpNo Xp2.here hx rfl (hb hby d23_10) rfl (XT.ii_ge_f hc10_3) ?_
          refine XS.aloadN Xp2.here hx rfl (hb hby d23_13) rfl rfl ?_
          refine XS.iload Xp2.here hx rfl (hb hby d23_14) rfl ?_
          exact kt
        obtain ⟨cl5, Ar5, Sa5, Ha5⟩ := id FA
        have hin5 : ¬ (Int32.ofNat i < 0 ∨ cl5.slots.size ≤ (Int32.ofNat i).toNatClampNeg) := own_in (by omega) (by omega) Sa5
        have hat5 : cl5.slots[(Int32.ofNat i).toNatClampNeg]? = some (.int (B i)) := own_at (by omega) (by omega) Ha5
        have st8 : ∀ tg, Steps p.tables e below (Tp2.setTop (mkF m 19 #[.val (.ref a1), .val (.int (37 : Int32)), .val (.int (Int32.ofNat f)), .val (.int (Int32.ofNat N)), .val (.int (37 : Int32)), .val (.int (Int32.ofNat i))] [(.int (37 : Int32)), (.int (B i))])) tg → Steps p.tables e below (Tp2.setTop (mkF m 16 #[.val (.ref a1), .val (.int (37 : Int32)), .val (.int (Int32.ofNat f)), .val (.int (Int32.ofNat N)), .val (.int (37 : Int32)), .val (.int (Int32.ofNat i))] [(.int (Int32.ofNat i)), (.ref a1)])) tg := by
          intro tg kt
          refine Xp2.baloadBytes hx (j := Int32.ofNat i) (v := (.int (B i))) (by rw [ep2]; exact Ar5.1) (State.isArrayOf_alike hZ.alike Ar5.2.1) Ar5.2.2 hin5 hat5 (g := (mkF m 16 #[.val (.ref a1), .val (.int (37 : Int32)), .val (.int (Int32.ofNat f)), .val (.int (Int32.ofNat N)), .val (.int (37 : Int32)), .val (.int (Int32.ofNat i))] [(.int (Int32.ofNat i)), (.ref a1)])) rfl rfl (hb hby d23_16) _ ?_
          refine XS.iload Xp2.here hx rfl (hb hby d23_17) rfl ?_
          exact kt
        by_cases hc19_7 : (B i) = (37 : Int32)
        · -- pc 19: (B i) = (37 : Int32)
          have st9 : ∀ tg, Steps p.tables e below (Tp2.setTop (mkF m 24 #[.val (.ref a1), .val (.int (37 : Int32)), .val (.int (Int32.ofNat f)), .val (.int (Int32.ofNat N)), .val (.int (37 : Int32)), .val (.int (Int32.ofNat i))] [(.int (Int32.ofNat i))])) tg → Steps p.tables e below (Tp2.setTop (mkF m 19 #[.val (.ref a1), .val (.int (37 : Int32)), .val (.int (Int32.ofNat f)), .val (.int (Int32.ofNat N)), .val (.int (37 : Int32)), .val (.int (Int32.ofNat i))] [(.int (37 : Int32)), (.int (B i))])) tg := by
            intro tg kt
            refine XS.icmpNo Xp2.here hx rfl (hb hby d23_19) rfl (XT.ii_ne_f hc19_7) ?_
            refine XS.iload Xp2.here hx rfl (hb hby d23_22) rfl ?_
            exact kt
          obtain ⟨fs, hr, hrun, hended, hW, hsame⟩ := Xp2.leave (v := some (.int (Int32.ofNat i))) (fun h => by rw [Bd.returns] at h; cases h)
          refine hG ⟨_, _, pp2 _ ?_, hrun, hended, _, _, rfl, ?_, ⟨_, rfl⟩, hW, hsame.mono (by decide) (by decide)⟩
          · refine st4 _ ?_
            refine st6 _ ?_
            refine st8 _ ?_
            refine st9 _ ?_
            show Steps p.tables e below (Tp2.setTop (mkF m 24 #[.val (.ref a1), .val (.int (37 : Int32)), .val (.int (Int32.ofNat f)), .val (.int (Int32.ofNat N)), .val (.int (37 : Int32)), .val (.int (Int32.ofNat i))] [(.int (Int32.ofNat i))])) _
            exact retI Xp2 hx Bd.returns (hb hby d23_24) hr
          · show Q23 Z a1 N B f h0 n0 _ Tp2.heap _
            rw [ep2]
            exact ⟨_, rfl, Np2, rfl, Or.inr ⟨i, rfl, hfi, by omega, hc19_7, hno⟩⟩
        · -- pc 19: not (B i) = (37 : Int32)
          have st10 : ∀ tg, Steps p.tables e below (Tp2.setTop (mkF m 7 #[.val (.ref a1), .val (.int (37 : Int32)), .val (.int (Int32.ofNat f)), .val (.int (Int32.ofNat N)), .val (.int (37 : Int32)), .val (.int (Int32.ofNat (i + 1)))] [])) tg → Steps p.tables e below (Tp2.setTop (mkF m 19 #[.val (.ref a1), .val (.int (37 : Int32)), .val (.int (Int32.ofNat f)), .val (.int (Int32.ofNat N)), .val (.int (37 : Int32)), .val (.int (Int32.ofNat i))] [(.int (37 : Int32)), (.int (B i))])) tg := by
            intro tg kt
            refine XS.icmpYes Xp2.here hx rfl (pc0 := 19) (pc' := 25) rfl (hb hby d23_19) rfl (XT.ii_ne_t hc19_7) (by decide) (by decide) ?_
            refine XS.iinc Xp2.here hx rfl (hb hby d23_25) rfl (l' := #[.val (.ref a1), .val (.int (37 : Int32)), .val (.int (Int32.ofNat f)), .val (.int (Int32.ofNat N)), .val (.int (37 : Int32)), .val (.int (Int32.ofNat i + (1 : Int32)))]) rfl ?_
            rw [show (Int32.ofNat i + (1 : Int32)) = Int32.ofNat (i + 1) from own_addn _ _]
            refine XS.goto Xp2.here hx rfl (pc0 := 28) (pc' := 7) rfl (hb hby d23_28) (by decide) (by decide) ?_
            exact kt
          refine ih (i + 1) _ _ (by omega) (by omega) (by omega) (own_step hno hc19_7) Xp2 ep2 Np2 (fun tg kt => ?_)
          refine pp2 _ ?_
          refine st4 _ ?_
          refine st6 _ ?_
          refine st8 _ ?_
          refine st10 _ ?_
          exact kt
      · -- pc 10: not (Int32.ofNat i) < (Int32.ofNat N)
        have hc10_3n : ¬ i < N := fun q => hc10_3 ((own_lt (by omega) (by omega)).mpr q)
        have st11 : ∀ tg, Steps p.tables e below (Tp2.setTop (mkF m 32 #[.val (.ref a1), .val (.int (37 : Int32)), .val (.int (Int32.ofNat f)), .val (.int (Int32.ofNat N)), .val (.int (37 : Int32)), .val (.int (Int32.ofNat i))] [(.int (-1 : Int32))])) tg → Steps p.tables e below (Tp2.setTop (mkF m 10 #[.val (.ref a1), .val (.int (37 : Int32)), .val (.int (Int32.ofNat f)), .val (.int (Int32.ofNat N)), .val (.int (37 : Int32)), .val (.int (Int32.ofNat i))] [(.int (Int32.ofNat N)), (.int (Int32.ofNat i))])) tg := by
          intro tg kt
          refine XS.icmpYes Xp2.here hx rfl (pc0 := 10) (pc' := 31) rfl (hb hby d23_10) rfl (XT.ii_ge_t hc10_3) (by decide) (by decide) ?_
          refine XS.iconst Xp2.here hx rfl (hb hby d23_31) ?_
          exact kt
        obtain ⟨fs, hr, hrun, hended, hW, hsame⟩ := Xp2.leave (v := some (.int (-1 : Int32))) (fun h => by rw [Bd.returns] at h; cases h)
        refine hG ⟨_, _, pp2 _ ?_, hrun, hended, _, _, rfl, ?_, ⟨_, rfl⟩, hW, hsame.mono (by decide) (by decide)⟩
        · refine st4 _ ?_
          refine st11 _ ?_
          show Steps p.tables e below (Tp2.setTop (mkF m 32 #[.val (.ref a1), .val (.int (37 : Int32)), .val (.int (Int32.ofNat f)), .val (.int (Int32.ofNat N)), .val (.int (37 : Int32)), .val (.int (Int32.ofNat i))] [(.int (-1 : Int32))])) _
          exact retI Xp2 hx Bd.returns (hb hby d23_32) hr
        · show Q23 Z a1 N B f h0 n0 _ Tp2.heap _
          rw [ep2]
          exact ⟨_, rfl, Np2, rfl, Or.inl ⟨rfl, fun j a b => hno j a (by omega)⟩⟩
  refine lp2 (N + 1) f _ _ (by omega) hf (Nat.le_refl _) (fun j a b => absurd b (by omega)) X0 e0 N0 (fun tg kt => ?_)
  refine pre0 _ ?_
  refine st1 _ ?_
  exact kt
theorem d37_0 : decode jdk_52_method_48_code 0 = .ok (.iload_n 2, 1) := by decide +kernel
theorem d37_1 : decode jdk_52_method_48_code 1 = .ok (.istore 4, 2) := by decide +kernel
theorem d37_3 : decode jdk_52_method_48_code 3 = .ok (.iload 4, 2) := by decide +kernel
theorem d37_5 : decode jdk_52_method_48_code 5 = .ok (.iload_n 3, 1) := by decide +kernel
theorem d37_6 : decode jdk_52_method_48_code 6 = .ok (.if_icmp .ge 22, 3) := by decide +kernel
theorem d37_9 : decode jdk_52_method_48_code 9 = .ok (.aload_n 0, 1) := by decide +kernel
theorem d37_10 : decode jdk_52_method_48_code 10 = .ok (.iload 4, 2) := by decide +kernel
theorem d37_12 : decode jdk_52_method_48_code 12 = .ok (.invokestatic 71, 3) := by decide +kernel
theorem d37_15 : decode jdk_52_method_48_code 15 = .ok (.iload_n 1, 1) := by decide +kernel
theorem d37_16 : decode jdk_52_method_48_code 16 = .ok (.if_icmp .ne 6, 3) := by decide +kernel
theorem d37_19 : decode jdk_52_method_48_code 19 = .ok (.iload 4, 2) := by decide +kernel
theorem d37_21 : decode jdk_52_method_48_code 21 = .ok (.ireturn, 1) := by decide +kernel
theorem d37_22 : decode jdk_52_method_48_code 22 = .ok (.iinc 4 1, 3) := by decide +kernel
theorem d37_25 : decode jdk_52_method_48_code 25 = .ok (.goto (-22), 3) := by decide +kernel
theorem d37_28 : decode jdk_52_method_48_code 28 = .ok (.iconst (-1), 1) := by decide +kernel
theorem d37_29 : decode jdk_52_method_48_code 29 = .ok (.ireturn, 1) := by decide +kernel
theorem pn_37 : plainName "java/lang/StringUTF16" = true := by first | (simp [plainName, overriddenIn]; done) | decide +kernel
theorem ef_37 (m : MethodId) (a1 : Addr) (y2 : Int32) (y3 : Int32) : entryFrame m #[(.ref a1), (.int (37 : Int32)), (.int y2), (.int y3)] 5 = mkF m 0 #[.val (.ref a1), .val (.int (37 : Int32)), .val (.int y2), .val (.int y3), .unset] [] := by first | (simp [entryFrame, mkF, argsToLocals, Value.category]; done) | rfl
def Q37 (Z : State) (a1 : Addr) (N : Nat) (B : Nat → Int32) (f : Nat) (h0 : Heap) (n0 : Nat) (v : Option Value) (h : Heap) (L : List Loc) : Prop := ∃ z : Int32, v = some (.int z) ∧ Fr n0 L ∧ h = h0 ∧ Idx N (fun j => (D16 (B (2 * j)) (B ((2 * j) + 1))) = (37 : Int32)) f z
set_option maxRecDepth 65536 in
set_option maxHeartbeats 40000000 in
theorem rm37 (l : Launch) (Z : State) (a0 : Array Value) (hw : ∀ d ∈ tables_1, d.before a0 Z = true) (ws : List Jvm.Cond) (a1 : Addr) (N : Nat) (B : Nat → Int32) (f : Nat) (h0 : Heap) (n0 : Nat) (Z0 : n0 ≤ h0.size) (OLD : Old Z n0 h0) (S_a : Sta Z Z.heap "java/lang/StringUTF16" "$assertionsDisabled" "Z" (.int (1 : Int32))) (S_h : Sta Z Z.heap "java/lang/StringUTF16" "HI_BYTE_SHIFT" "I" (.int (0 : Int32))) (S_l : Sta Z Z.heap "java/lang/StringUTF16" "LO_BYTE_SHIFT" "I" (.int (8 : Int32))) (hN : N ≤ 100) (hf : f ≤ N) (FA : ArF Z h0 a1 .byte (2 * N) B) :
    MetFree l (⟨"java/lang/StringUTF16", "indexOfCharUnsafe", "([BIII)I"⟩ : MethodName) (head1 (Jvm.Cond.code (⟨"java/lang/StringUTF16", "indexOfCharUnsafe", "([BIII)I"⟩ : MethodName) jdk_52_method_48_code 5 (some .int) :: ws) ({ frames := 1, cells := 0, slots := 0, locals := 13 } : Room)) (fun a U => a = #[(.ref a1), (.int (37 : Int32)), (.int (Int32.ofNat f)), (.int (Int32.ofNat N))] ∧ Z.Warmed39 U.vm ∧ U.heap = h0) (fun _ _ _ _ _ => True) (fun _ U oo U' => ∃ v L, oo = .returned v ∧ Q37 Z a1 N B f h0 n0 v U'.heap L ∧ FrameEnd U oo U' L ({ frames := 1, cells := 0, slots := 0, locals := 13 } : Room).cells ({ frames := 1, cells := 0, slots := 0, locals := 13 } : Room).slots) := by
  refine MetFree.of_bodySF (plainFor_of_name pn_37) hisR ?_
  intro p e s m args below meth c s₁ Bd hml0 hP hK
  obtain ⟨rfl, hZ, hh⟩ := hP
  have hx := Bd.exec
  have hby := Bd.bytes
  have hml : c.maxLocals = 5 := hml0
  have hown : s.vm.findClass "java/lang/StringUTF16" = some m.cls := findClass_of_methodNamed Bd.named
  have hnm := (name_of_methodNamed Bd.named Bd.method).1
  have X0 : Stand p l e ({ frames := 1, cells := 0, slots := 0, locals := 13 } : Room) s m #[(.ref a1), (.int (37 : Int32)), (.int (Int32.ofNat f)), (.int (Int32.ofNat N))] below meth c s₁ [] 0 0 := Stand.of_body Bd
  have e0 : s₁.heap = h0 := by rw [← hh, Bd.state]; rfl
  have N0 := Fr.nil n0
  have K0 : Keep h0 h0 [] := Keep.refl _ _
  have pre0 : ∀ tg, Steps p.tables e below (s₁.setTop (mkF m 0 #[.val (.ref a1), .val (.int (37 : Int32)), .val (.int (Int32.ofNat f)), .val (.int (Int32.ofNat N)), .unset] [])) tg → Steps p.tables e below (s₁.setTop (entryFrame m #[(.ref a1), (.int (37 : Int32)), (.int (Int32.ofNat f)), (.int (Int32.ofNat N))] 5)) tg := fun tg k => castTop (ef_37 m a1 (Int32.ofNat f) (Int32.ofNat N)) k
  refine Classical.byContradiction fun hG => ?_
  have st1 : ∀ tg, Steps p.tables e below (s₁.setTop (mkF m 3 #[.val (.ref a1), .val (.int (37 : Int32)), .val (.int (Int32.ofNat f)), .val (.int (Int32.ofNat N)), .val (.int (Int32.ofNat f))] [])) tg → Steps p.tables e below (s₁.setTop (mkF m 0 #[.val (.ref a1), .val (.int (37 : Int32)), .val (.int (Int32.ofNat f)), .val (.int (Int32.ofNat N)), .unset] [])) tg := by
    intro tg kt
    refine XS.iloadN X0.here hx rfl (hb hby d37_0) rfl ?_
    refine XS.istore X0.here hx rfl (hb hby d37_1) rfl (l' := #[.val (.ref a1), .val (.int (37 : Int32)), .val (.int (Int32.ofNat f)), .val (.int (Int32.ofNat N)), .val (.int (Int32.ofNat f))]) rfl ?_
    exact kt
  have lp2 : ∀ (k : Nat) (i : Nat) (Tp2 : State) (lc2 : List Loc), (N < i + k) → (i ≤ N) → (f ≤ i) → (∀ j, f ≤ j → j < i → ¬ ((fun j => (D16 (B (2 * j)) (B ((2 * j) + 1))) = (37 : Int32)) j)) → Stand p l e ({ frames := 1, cells := 0, slots := 0, locals := 13 } : Room) s m #[(.ref a1), (.int (37 : Int32)), (.int (Int32.ofNat f)), (.int (Int32.ofNat N))] below meth c Tp2 lc2 0 0 → Tp2.heap = h0 → Fr n0 lc2 → (∀ tg, Steps p.tables e below (Tp2.setTop (mkF m 3 #[.val (.ref a1), .val (.int (37 : Int32)), .val (.int (Int32.ofNat f)), .val (.int (Int32.ofNat N)), .val (.int (Int32.ofNat i))] [])) tg → Steps p.tables e below (s₁.setTop (entryFrame m #[(.ref a1), (.int (37 : Int32)), (.int (Int32.ofNat f)), (.int (Int32.ofNat N))] 5)) tg) → False := by
    intro k
    induction k with
    | zero =>
      intro i Tp2 lc2 hk hi hfi hno
      intros; exfalso; omega
    | succ k ih =>
      intro i Tp2 lc2 hk hi hfi hno Xp2 ep2 Np2 pp2
      have st4 : ∀ tg, Steps p.tables e below (Tp2.setTop (mkF m 6 #[.val (.ref a1), .val (.int (37 : Int32)), .val (.int (Int32.ofNat f)), .val (.int (Int32.ofNat N)), .val (.int (Int32.ofNat i))] [(.int (Int32.ofNat N)), (.int (Int32.ofNat i))])) tg → Steps p.tables e below (Tp2.setTop (mkF m 3 #[.val (.ref a1), .val (.int (37 : Int32)), .val (.int (Int32.ofNat f)), .val (.int (Int32.ofNat N)), .val (.int (Int32.ofNat i))] [])) tg := by
        intro tg kt
        refine XS.iload Xp2.here hx rfl (hb hby d37_3) rfl ?_
        refine XS.iloadN Xp2.here hx rfl (hb hby d37_5) rfl ?_
        exact kt
      by_cases hc6_3 : (Int32.ofNat i) < (Int32.ofNat N)
      · -- pc 6: (Int32.ofNat i) < (Int32.ofNat N)
        have hc6_3n : i < N := (own_lt (by omega) (by omega)).mp hc6_3
        have st5 : ∀ tg, Steps p.tables e below (Tp2.setTop (mkF m 12 #[.val (.ref a1), .val (.int (37 : Int32)), .val (.int (Int32.ofNat f)), .val (.int (Int32.ofNat N)), .val (.int (Int32.ofNat i))] [(.int (Int32.ofNat i)), (.ref a1)])) tg → Steps p.tables e below (Tp2.setTop (mkF m 6 #[.val (.ref a1), .val (.int (37 : Int32)), .val (.int (Int32.ofNat f)), .val (.int (Int32.ofNat N)), .val (.int (Int32.ofNat i))] [(.int (Int32.ofNat N)), (.int (Int32.ofNat i))])) tg := by
          intro tg kt
          refine XS.icmpNo Xp2.here hx rfl (hb hby d37_6) rfl (XT.ii_ge_f hc6_3) ?_
          refine XS.aloadN Xp2.here hx rfl (hb hby d37_9) rfl rfl ?_
          refine XS.iload Xp2.here hx rfl (hb hby d37_10) rfl ?_
          exact kt
        obtain ⟨_, _, ⟨T6, L6, k6, n6⟩, -, X6, ⟨Lc6, hQ6, l6, y6, z6⟩, st6⟩ := Jvm.LawKit.callS Xp2 hx (y := (⟨"java/lang/StringUTF16", "getChar", "([BI)C"⟩ : MethodName)) hown (mvT hZ (hw _ (List.mem_of_getElem? (i := 129) rfl))) (mvT hZ (hw _ (List.mem_of_getElem? (i := 130) rfl))) (mvT hZ (hw _ (List.mem_of_getElem? (i := 94) rfl))) (mvT hZ (hw _ (List.mem_of_getElem? (i := 131) rfl))) (by decide) (backOf (W := 0) (rm30 l Z a0 hw [] a1 N B i h0 n0 Z0 OLD S_a S_h S_l hN (by omega) FA) hZ (hw _ (List.mem_of_getElem? (i := 131) rfl)) (hw _ (List.mem_of_getElem? (i := 94) rfl)) (by decide) (by decide)) (g := (mkF m 12 #[.val (.ref a1), .val (.int (37 : Int32)), .val (.int (Int32.ofNat f)), .val (.int (Int32.ofNat N)), .val (.int (Int32.ofNat i))] [(.int (Int32.ofNat i)), (.ref a1)])) rfl (by rw [hml]; rfl) (argsL := [(.ref a1), (.int (Int32.ofNat i))]) (rest := []) (lenOf pd_6 rfl) rfl (by show 2 * 0 + _ ≤ _; exact Nat.le_of_eq rfl) (hb hby d37_12) (fun _ _ => ⟨rfl, ep2, (by decide : 0 + 0 ≤ _), (by decide : 0 + 0 ≤ _)⟩)
        dsimp only [Pt.U, Pt.locs, Pt.cells, Pt.slots] at X6 l6 y6 z6 st6 hQ6
        subst l6 y6 z6
        obtain ⟨rfl, N6q, e6⟩ := hQ6
        have N6 := Fr.app Np2 N6q
        have st8 : ∀ tg, Steps p.tables e below (T6.setTop (mkF m 16 #[.val (.ref a1), .val (.int (37 : Int32)), .val (.int (Int32.ofNat f)), .val (.int (Int32.ofNat N)), .val (.int (Int32.ofNat i))] [(.int (37 : Int32)), (.int (D16 (B (2 * i)) (B ((2 * i) + 1))))])) tg → Steps p.tables e below (T6.setTop (mkF m 15 #[.val (.ref a1), .val (.int (37 : Int32)), .val (.int (Int32.ofNat f)), .val (.int (Int32.ofNat N)), .val (.int (Int32.ofNat i))] [(.int (D16 (B (2 * i)) (B ((2 * i) + 1))))])) tg := by
          intro tg kt
          refine XS.iloadN X6.here hx rfl (hb hby d37_15) rfl ?_
          exact kt
        by_cases hc16_7 : (D16 (B (2 * i)) (B ((2 * i) + 1))) = (37 : Int32)
        · -- pc 16: (D16 (B (2 * i)) (B ((2 * i) + 1))) = (37 : Int32)
          have st9 : ∀ tg, Steps p.tables e below (T6.setTop (mkF m 21 #[.val (.ref a1), .val (.int (37 : Int32)), .val (.int (Int32.ofNat f)), .val (.int (Int32.ofNat N)), .val (.int (Int32.ofNat i))] [(.int (Int32.ofNat i))])) tg → Steps p.tables e below (T6.setTop (mkF m 16 #[.val (.ref a1), .val (.int (37 : Int32)), .val (.int (Int32.ofNat f)), .val (.int (Int32.ofNat N)), .val (.int (Int32.ofNat i))] [(.int (37 : Int32)), (.int (D16 (B (2 * i)) (B ((2 * i) + 1))))])) tg := by
            intro tg kt
            refine XS.icmpNo X6.here hx rfl (hb hby d37_16) rfl (XT.ii_ne_f hc16_7) ?_
            refine XS.iload X6.here hx rfl (hb hby d37_19) rfl ?_
            exact kt
          obtain ⟨fs, hr, hrun, hended, hW, hsame⟩ := X6.leave (v := some (.int (Int32.ofNat i))) (fun h => by rw [Bd.returns] at h; cases h)
          refine hG ⟨_, _, pp2 _ ?_, hrun, hended, _, _, rfl, ?_, ⟨_, rfl⟩, hW, hsame.mono (by decide) (by decide)⟩
          · refine st4 _ ?_
            refine st5 _ ?_
            show Steps p.tables e below (Tp2.setTop (mkF m 12 #[.val (.ref a1), .val (.int (37 : Int32)), .val (.int (Int32.ofNat f)), .val (.int (Int32.ofNat N)), .val (.int (Int32.ofNat i))] [(.int (Int32.ofNat i)), (.ref a1)])) _
            refine st6 _ ?_
            refine st8 _ ?_
            refine st9 _ ?_
            show Steps p.tables e below (T6.setTop (mkF m 21 #[.val (.ref a1), .val (.int (37 : Int32)), .val (.int (Int32.ofNat f)), .val (.int (Int32.ofNat N)), .val (.int (Int32.ofNat i))] [(.int (Int32.ofNat i))])) _
            exact retI X6 hx Bd.returns (hb hby d37_21) hr
          · show Q37 Z a1 N B f h0 n0 _ T6.heap _
            rw [e6]
            exact ⟨_, rfl, N6, rfl, Or.inr ⟨i, rfl, hfi, by omega, hc16_7, hno⟩⟩
        · -- pc 16: not (D16 (B (2 * i)) (B ((2 * i) + 1))) = (37 : Int32)
          have st10 : ∀ tg, Steps p.tables e below (T6.setTop (mkF m 3 #[.val (.ref a1), .val (.int (37 : Int32)), .val (.int (Int32.ofNat f)), .val (.int (Int32.ofNat N)), .val (.int (Int32.ofNat (i + 1)))] [])) tg → Steps p.tables e below (T6.setTop (mkF m 16 #[.val (.ref a1), .val (.int (37 : Int32)), .val (.int (Int32.ofNat f)), .val (.int (Int32.ofNat N)), .val (.int (Int32.ofNat i))] [(.int (37 : Int32)), (.int (D16 (B (2 * i)) (B ((2 * i) + 1))))])) tg := by
            intro tg kt
            refine XS.icmpYes X6.here hx rfl (pc0 := 16) (pc' := 22) rfl (hb hby d37_16) rfl (XT.ii_ne_t hc16_7) (by decide) (by decide) ?_
            refine XS.iinc X6.here hx rfl (hb hby d37_22) rfl (l' := #[.val (.ref a1), .val (.int (37 : Int32)), .val (.int (Int32.ofNat f)), .val (.int (Int32.ofNat N)), .val (.int (Int32.ofNat i + (1 : Int32)))]) rfl ?_
            rw [show (Int32.ofNat i + (1 : Int32)) = Int32.ofNat (i + 1) from own_addn _ _]
            refine XS.goto X6.here hx rfl (pc0 := 25) (pc' := 3) rfl (hb hby d37_25) (by decide) (by decide) ?_
            exact kt
          refine ih (i + 1) _ _ (by omega) (by omega) (by omega) (own_step hno hc16_7) X6 e6 N6 (fun tg kt => ?_)
          refine pp2 _ ?_
          refine st4 _ ?_
          refine st5 _ ?_
          show Steps p.tables e below (Tp2.setTop (mkF m 12 #[.val (.ref a1), .val (.int (37 : Int32)), .val (.int (Int32.ofNat f)), .val (.int (Int32.ofNat N)), .val (.int (Int32.ofNat i))] [(.int (Int32.ofNat i)), (.ref a1)])) _
          refine st6 _ ?_
          refine st8 _ ?_
          refine st10 _ ?_
          exact kt
      · -- pc 6: not (Int32.ofNat i) < (Int32.ofNat N)
        have hc6_3n : ¬ i < N := fun q => hc6_3 ((own_lt (by omega) (by omega)).mpr q)
        have st11 : ∀ tg, Steps p.tables e below (Tp2.setTop (mkF m 29 #[.val (.ref a1), .val (.int (37 : Int32)), .val (.int (Int32.ofNat f)), .val (.int (Int32.ofNat N)), .val (.int (Int32.ofNat i))] [(.int (-1 : Int32))])) tg → Steps p.tables e below (Tp2.setTop (mkF m 6 #[.val (.ref a1), .val (.int (37 : Int32)), .val (.int (Int32.ofNat f)), .val (.int (Int32.ofNat N)), .val (.int (Int32.ofNat i))] [(.int (Int32.ofNat N)), (.int (Int32.ofNat i))])) tg := by
          intro tg kt
          refine XS.icmpYes Xp2.here hx rfl (pc0 := 6) (pc' := 28) rfl (hb hby d37_6) rfl (XT.ii_ge_t hc6_3) (by decide) (by decide) ?_
          refine XS.iconst Xp2.here hx rfl (hb hby d37_28) ?_
          exact kt
        obtain ⟨fs, hr, hrun, hended, hW, hsame⟩ := Xp2.leave (v := some (.int (-1 : Int32))) (fun h => by rw [Bd.returns] at h; cases h)
        refine hG ⟨_, _, pp2 _ ?_, hrun, hended, _, _, rfl, ?_, ⟨_, rfl⟩, hW, hsame.mono (by decide) (by decide)⟩
        · refine st4 _ ?_
          refine st11 _ ?_
          show Steps p.tables e below (Tp2.setTop (mkF m 29 #[.val (.ref a1), .val (.int (37 : Int32)), .val (.int (Int32.ofNat f)), .val (.int (Int32.ofNat N)), .val (.int (Int32.ofNat i))] [(.int (-1 : Int32))])) _
          exact retI Xp2 hx Bd.returns (hb hby d37_29) hr
        · show Q37 Z a1 N B f h0 n0 _ Tp2.heap _
          rw [ep2]
          exact ⟨_, rfl, Np2, rfl, Or.inl ⟨rfl, fun j a b => hno j a (by omega)⟩⟩
  refine lp2 (N + 1) f _ _ (by omega) hf (Nat.le_refl _) (fun j a b => absurd b (by omega)) X0 e0 N0 (fun tg kt => ?_)
  refine pre0 _ ?_
  refine st1 _ ?_
  exact kt
theorem d18_0 : decode jdk_29_method_65_code 0 = .ok (.iload_n 0, 1) := by decide +kernel
theorem d18_1 : decode jdk_29_method_65_code 1 = .ok (.iload_n 1, 1) := by decide +kernel
theorem d18_2 : decode jdk_29_method_65_code 2 = .ok (.if_icmp .lt 7, 3) := by decide +kernel
theorem d18_5 : decode jdk_29_method_65_code 5 = .ok (.iload_n 0, 1) := by decide +kernel
theorem d18_6 : decode jdk_29_method_65_code 6 = .ok (.goto 4, 3) := by decide +kernel
theorem d18_10 : decode jdk_29_method_65_code 10 = .ok (.ireturn, 1) := by decide +kernel
theorem ef_18f (m : MethodId) (y0 : Int32) : entryFrame m #[(.int y0), (.int (0 : Int32))] 2 = mkF m 0 #[.val (.int y0), .val (.int (0 : Int32))] [] := by first | (simp [entryFrame, mkF, argsToLocals, Value.category]; done) | rfl
def Q18f (Z : State) (f : Nat) (h0 : Heap) (n0 : Nat) (v : Option Value) (h : Heap) (L : List Loc) : Prop := v = some (.int (Int32.ofNat f)) ∧ Fr n0 L ∧ h = h0
set_option maxRecDepth 65536 in
set_option maxHeartbeats 40000000 in
theorem rm18f (l : Launch) (Z : State) (a0 : Array Value) (hw : ∀ d ∈ tables_1, d.before a0 Z = true) (ws : List Jvm.Cond) (f : Nat) (h0 : Heap) (n0 : Nat) (Z0 : n0 ≤ h0.size) (hlo : ¬ ((Int32.ofNat f) < (0 : Int32))) :
    MetFree l (⟨"java/lang/Math", "max", "(II)I"⟩ : MethodName) (head1 (Jvm.Cond.code (⟨"java/lang/Math", "max", "(II)I"⟩ : MethodName) jdk_29_method_65_code 2 (some .int) :: ws) ({ frames := 0, cells := 0, slots := 0, locals := 0 } : Room)) (fun a U => a = #[(.int (Int32.ofNat f)), (.int (0 : Int32))] ∧ Z.Warmed39 U.vm ∧ U.heap = h0) (fun _ _ _ _ _ => True) (fun _ U oo U' => ∃ v L, oo = .returned v ∧ Q18f Z f h0 n0 v U'.heap L ∧ FrameEnd U oo U' L ({ frames := 0, cells := 0, slots := 0, locals := 0 } : Room).cells ({ frames := 0, cells := 0, slots := 0, locals := 0 } : Room).slots) := by
  refine MetFree.of_bodySF (Jvm.Free.JP.mathPlain rfl (by decide +kernel)) hisR ?_
  intro p e s m args below meth c s₁ Bd hml0 hP hK
  obtain ⟨rfl, hZ, hh⟩ := hP
  have hx := Bd.exec
  have hby := Bd.bytes
  have hml : c.maxLocals = 2 := hml0
  have hown : s.vm.findClass "java/lang/Math" = some m.cls := findClass_of_methodNamed Bd.named
  have hnm := (name_of_methodNamed Bd.named Bd.method).1
  have X0 : Stand p l e ({ frames := 0, cells := 0, slots := 0, locals := 0 } : Room) s m #[(.int (Int32.ofNat f)), (.int (0 : Int32))] below meth c s₁ [] 0 0 := Stand.of_body Bd
  have e0 : s₁.heap = h0 := by rw [← hh, Bd.state]; rfl
  have N0 := Fr.nil n0
  have K0 : Keep h0 h0 [] := Keep.refl _ _
  have pre0 : ∀ tg, Steps p.tables e below (s₁.setTop (mkF m 0 #[.val (.int (Int32.ofNat f)), .val (.int (0 : Int32))] [])) tg → Steps p.tables e below (s₁.setTop (entryFrame m #[(.int (Int32.ofNat f)), (.int (0 : Int32))] 2)) tg := fun tg k => castTop (ef_18f m (Int32.ofNat f)) k
  have st1 : ∀ tg, Steps p.tables e below (s₁.setTop (mkF m 10 #[.val (.int (Int32.ofNat f)), .val (.int (0 : Int32))] [(.int (Int32.ofNat f))])) tg → Steps p.tables e below (s₁.setTop (mkF m 0 #[.val (.int (Int32.ofNat f)), .val (.int (0 : Int32))] [])) tg := by
    intro tg kt
    refine XS.iloadN X0.here hx rfl (hb hby d18_0) rfl ?_
    refine XS.iloadN X0.here hx rfl (hb hby d18_1) rfl ?_
    refine XS.icmpNo X0.here hx rfl (hb hby d18_2) rfl (XT.ii_lt_f hlo) ?_
    refine XS.iloadN X0.here hx rfl (hb hby d18_5) rfl ?_
    show Steps p.tables e below (s₁.setTop (mkF m 6 #[.val (.int (Int32.ofNat f)), .val (.int (0 : Int32))] [(.int (Int32.ofNat f))])) tg
    refine XS.goto X0.here hx rfl (pc0 := 6) (pc' := 10) rfl (hb hby d18_6) (by decide) (by decide) ?_
    exact kt
  obtain ⟨fs, hr, hrun, hended, hW, hsame⟩ := X0.leave (v := some (.int (Int32.ofNat f))) (fun h => by rw [Bd.returns] at h; cases h)
  refine ⟨_, _, pre0 _ ?_, hrun, hended, _, _, rfl, ?_, ⟨_, rfl⟩, hW, hsame.mono (by decide) (by decide)⟩
  · refine st1 _ ?_
    show Steps p.tables e below (s₁.setTop (mkF m 10 #[.val (.int (Int32.ofNat f)), .val (.int (0 : Int32))] [(.int (Int32.ofNat f))])) _
    exact retI X0 hx Bd.returns (hb hby d18_10) hr
  · show Q18f Z f h0 n0 _ s₁.heap _
    rw [e0]
    refine ⟨?_, N0, rfl⟩
    exact congrArg (fun z => some (Value.int z)) (rfl)
theorem d19_0 : decode jdk_29_method_69_code 0 = .ok (.iload_n 0, 1) := by decide +kernel
theorem d19_1 : decode jdk_29_method_69_code 1 = .ok (.iload_n 1, 1) := by decide +kernel
theorem d19_2 : decode jdk_29_method_69_code 2 = .ok (.if_icmp .gt 7, 3) := by decide +kernel
theorem d19_5 : decode jdk_29_method_69_code 5 = .ok (.iload_n 0, 1) := by decide +kernel
theorem d19_6 : decode jdk_29_method_69_code 6 = .ok (.goto 4, 3) := by decide +kernel
theorem d19_10 : decode jdk_29_method_69_code 10 = .ok (.ireturn, 1) := by decide +kernel
theorem ef_19f (m : MethodId) (p1 : Int32) (y1 : Int32) : entryFrame m #[(.int p1), (.int y1)] 2 = mkF m 0 #[.val (.int p1), .val (.int y1)] [] := by first | (simp [entryFrame, mkF, argsToLocals, Value.category]; done) | rfl
def Q19f (Z : State) (p1 : Int32) (h0 : Heap) (n0 : Nat) (v : Option Value) (h : Heap) (L : List Loc) : Prop := v = some (.int p1) ∧ Fr n0 L ∧ h = h0
set_option maxRecDepth 65536 in
set_option maxHeartbeats 40000000 in
theorem rm19f (l : Launch) (Z : State) (a0 : Array Value) (hw : ∀ d ∈ tables_1, d.before a0 Z = true) (ws : List Jvm.Cond) (p1 : Int32) (h0 : Heap) (n0 : Nat) (Z0 : n0 ≤ h0.size) (hirr : ¬ ((p1) < p1)) :
    MetFree l (⟨"java/lang/Math", "min", "(II)I"⟩ : MethodName) (head1 (Jvm.Cond.code (⟨"java/lang/Math", "min", "(II)I"⟩ : MethodName) jdk_29_method_69_code 2 (some .int) :: ws) ({ frames := 0, cells := 0, slots := 0, locals := 0 } : Room)) (fun a U => a = #[(.int p1), (.int (p1))] ∧ Z.Warmed39 U.vm ∧ U.heap = h0) (fun _ _ _ _ _ => True) (fun _ U oo U' => ∃ v L, oo = .returned v ∧ Q19f Z p1 h0 n0 v U'.heap L ∧ FrameEnd U oo U' L ({ frames := 0, cells := 0, slots := 0, locals := 0 } : Room).cells ({ frames := 0, cells := 0, slots := 0, locals := 0 } : Room).slots) := by
  refine MetFree.of_bodySF (Jvm.Free.JP.mathPlain rfl (by decide +kernel)) hisR ?_
  intro p e s m args below meth c s₁ Bd hml0 hP hK
  obtain ⟨rfl, hZ, hh⟩ := hP
  have hx := Bd.exec
  have hby := Bd.bytes
  have hml : c.maxLocals = 2 := hml0
  have hown : s.vm.findClass "java/lang/Math" = some m.cls := findClass_of_methodNamed Bd.named
  have hnm := (name_of_methodNamed Bd.named Bd.method).1
  have X0 : Stand p l e ({ frames := 0, cells := 0, slots := 0, locals := 0 } : Room) s m #[(.int p1), (.int (p1))] below meth c s₁ [] 0 0 := Stand.of_body Bd
  have e0 : s₁.heap = h0 := by rw [← hh, Bd.state]; rfl
  have N0 := Fr.nil n0
  have K0 : Keep h0 h0 [] := Keep.refl _ _
  have pre0 : ∀ tg, Steps p.tables e below (s₁.setTop (mkF m 0 #[.val (.int p1), .val (.int (p1))] [])) tg → Steps p.tables e below (s₁.setTop (entryFrame m #[(.int p1), (.int (p1))] 2)) tg := fun tg k => castTop (ef_19f m p1 (p1)) k
  have st1 : ∀ tg, Steps p.tables e below (s₁.setTop (mkF m 10 #[.val (.int p1), .val (.int (p1))] [(.int p1)])) tg → Steps p.tables e below (s₁.setTop (mkF m 0 #[.val (.int p1), .val (.int (p1))] [])) tg := by
    intro tg kt
    refine XS.iloadN X0.here hx rfl (hb hby d19_0) rfl ?_
    refine XS.iloadN X0.here hx rfl (hb hby d19_1) rfl ?_
    refine XS.icmpNo X0.here hx rfl (hb hby d19_2) rfl (XT.ii_gt_f hirr) ?_
    refine XS.iloadN X0.here hx rfl (hb hby d19_5) rfl ?_
    show Steps p.tables e below (s₁.setTop (mkF m 6 #[.val (.int p1), .val (.int (p1))] [(.int p1)])) tg
    refine XS.goto X0.here hx rfl (pc0 := 6) (pc' := 10) rfl (hb hby d19_6) (by decide) (by decide) ?_
    exact kt
  obtain ⟨fs, hr, hrun, hended, hW, hsame⟩ := X0.leave (v := some (.int p1)) (fun h => by rw [Bd.returns] at h; cases h)
  refine ⟨_, _, pre0 _ ?_, hrun, hended, _, _, rfl, ?_, ⟨_, rfl⟩, hW, hsame.mono (by decide) (by decide)⟩
  · refine st1 _ ?_
    show Steps p.tables e below (s₁.setTop (mkF m 10 #[.val (.int p1), .val (.int (p1))] [(.int p1)])) _
    exact retI X0 hx Bd.returns (hb hby d19_10) hr
  · show Q19f Z p1 h0 n0 _ s₁.heap _
    rw [e0]
    refine ⟨?_, N0, rfl⟩
    exact congrArg (fun z => some (Value.int z)) (rfl)
theorem d16_0 : decode jdk_43_method_22_code 0 = .ok (.iload_n 1, 1) := by decide +kernel
theorem d16_1 : decode jdk_43_method_22_code 1 = .ok (.invokestatic 88, 3) := by decide +kernel
theorem d16_4 : decode jdk_43_method_22_code 4 = .ok (.ifCond .ne 5, 3) := by decide +kernel
theorem d16_9 : decode jdk_43_method_22_code 9 = .ok (.iload_n 2, 1) := by decide +kernel
theorem d16_10 : decode jdk_43_method_22_code 10 = .ok (.iconst 0, 1) := by decide +kernel
theorem d16_11 : decode jdk_43_method_22_code 11 = .ok (.invokestatic 92, 3) := by decide +kernel
theorem d16_14 : decode jdk_43_method_22_code 14 = .ok (.istore_n 2, 1) := by decide +kernel
theorem d16_15 : decode jdk_43_method_22_code 15 = .ok (.iload_n 3, 1) := by decide +kernel
theorem d16_16 : decode jdk_43_method_22_code 16 = .ok (.aload_n 0, 1) := by decide +kernel
theorem d16_17 : decode jdk_43_method_22_code 17 = .ok (.arraylength, 1) := by decide +kernel
theorem d16_18 : decode jdk_43_method_22_code 18 = .ok (.invokestatic 38, 3) := by decide +kernel
theorem d16_21 : decode jdk_43_method_22_code 21 = .ok (.istore_n 3, 1) := by decide +kernel
theorem d16_22 : decode jdk_43_method_22_code 22 = .ok (.iload_n 2, 1) := by decide +kernel
theorem d16_23 : decode jdk_43_method_22_code 23 = .ok (.iload_n 3, 1) := by decide +kernel
theorem d16_24 : decode jdk_43_method_22_code 24 = .ok (.if_icmp .lt 5, 3) := by decide +kernel
theorem d16_27 : decode jdk_43_method_22_code 27 = .ok (.iconst (-1), 1) := by decide +kernel
theorem d16_28 : decode jdk_43_method_22_code 28 = .ok (.ireturn, 1) := by decide +kernel
theorem d16_29 : decode jdk_43_method_22_code 29 = .ok (.aload_n 0, 1) := by decide +kernel
theorem d16_30 : decode jdk_43_method_22_code 30 = .ok (.iload_n 1, 1) := by decide +kernel
theorem d16_31 : decode jdk_43_method_22_code 31 = .ok (.iload_n 2, 1) := by decide +kernel
theorem d16_32 : decode jdk_43_method_22_code 32 = .ok (.iload_n 3, 1) := by decide +kernel
theorem d16_33 : decode jdk_43_method_22_code 33 = .ok (.invokestatic 95, 3) := by decide +kernel
theorem d16_36 : decode jdk_43_method_22_code 36 = .ok (.ireturn, 1) := by decide +kernel
theorem pn_16 : plainName "java/lang/StringLatin1" = true := by first | (simp [plainName, overriddenIn]; done) | decide +kernel
theorem ef_16 (m : MethodId) (a1 : Addr) (y2 : Int32) (y3 : Int32) : entryFrame m #[(.ref a1), (.int (37 : Int32)), (.int y2), (.int y3)] 4 = mkF m 0 #[.val (.ref a1), .val (.int (37 : Int32)), .val (.int y2), .val (.int y3)] [] := by first | (simp [entryFrame, mkF, argsToLocals, Value.category]; done) | rfl
def Q16 (Z : State) (a1 : Addr) (N : Nat) (B : Nat → Int32) (f : Nat) (h0 : Heap) (n0 : Nat) (v : Option Value) (h : Heap) (L : List Loc) : Prop := ∃ z : Int32, v = some (.int z) ∧ Fr n0 L ∧ h = h0 ∧ Idx N (fun j => (B j) = (37 : Int32)) f z
set_option maxRecDepth 65536 in
set_option maxHeartbeats 40000000 in
theorem rm16 (l : Launch) (Z : State) (a0 : Array Value) (hw : ∀ d ∈ tables_1, d.before a0 Z = true) (ws : List Jvm.Cond) (a1 : Addr) (N : Nat) (B : Nat → Int32) (f : Nat) (h0 : Heap) (n0 : Nat) (Z0 : n0 ≤ h0.size) (hN : N ≤ 100) (hf : f ≤ N) (FA : ArF Z h0 a1 .byte N B) :
    MetFree l (⟨"java/lang/StringLatin1", "indexOf", "([BIII)I"⟩ : MethodName) (head1 (Jvm.Cond.code (⟨"java/lang/StringLatin1", "indexOf", "([BIII)I"⟩ : MethodName) jdk_43_method_22_code 4 (some .int) :: ws) ({ frames := 1, cells := 0, slots := 0, locals := 17 } : Room)) (fun a U => a = #[(.ref a1), (.int (37 : Int32)), (.int (Int32.ofNat f)), (.int (Int32.ofNat N))] ∧ Z.Warmed39 U.vm ∧ U.heap = h0) (fun _ _ _ _ _ => True) (fun _ U oo U' => ∃ v L, oo = .returned v ∧ Q16 Z a1 N B f h0 n0 v U'.heap L ∧ FrameEnd U oo U' L ({ frames := 1, cells := 0, slots := 0, locals := 17 } : Room).cells ({ frames := 1, cells := 0, slots := 0, locals := 17 } : Room).slots) := by
  refine MetFree.of_bodySF (plainFor_of_name pn_16) hisR ?_
  intro p e s m args below meth c s₁ Bd hml0 hP hK
  obtain ⟨rfl, hZ, hh⟩ := hP
  have hx := Bd.exec
  have hby := Bd.bytes
  have hml : c.maxLocals = 4 := hml0
  have hown : s.vm.findClass "java/lang/StringLatin1" = some m.cls := findClass_of_methodNamed Bd.named
  have hnm := (name_of_methodNamed Bd.named Bd.method).1
  have X0 : Stand p l e ({ frames := 1, cells := 0, slots := 0, locals := 17 } : Room) s m #[(.ref a1), (.int (37 : Int32)), (.int (Int32.ofNat f)), (.int (Int32.ofNat N))] below meth c s₁ [] 0 0 := Stand.of_body Bd
  have e0 : s₁.heap = h0 := by rw [← hh, Bd.state]; rfl
  have N0 := Fr.nil n0
  have K0 : Keep h0 h0 [] := Keep.refl _ _
  have pre0 : ∀ tg, Steps p.tables e below (s₁.setTop (mkF m 0 #[.val (.ref a1), .val (.int (37 : Int32)), .val (.int (Int32.ofNat f)), .val (.int (Int32.ofNat N))] [])) tg → Steps p.tables e below (s₁.setTop (entryFrame m #[(.ref a1), (.int (37 : Int32)), (.int (Int32.ofNat f)), (.int (Int32.ofNat N))] 4)) tg := fun tg k => castTop (ef_16 m a1 (Int32.ofNat f) (Int32.ofNat N)) k
  have st1 : ∀ tg, Steps p.tables e below (s₁.setTop (mkF m 1 #[.val (.ref a1), .val (.int (37 : Int32)), .val (.int (Int32.ofNat f)), .val (.int (Int32.ofNat N))] [(.int (37 : Int32))])) tg → Steps p.tables e below (s₁.setTop (mkF m 0 #[.val (.ref a1), .val (.int (37 : Int32)), .val (.int (Int32.ofNat f)), .val (.int (Int32.ofNat N))] [])) tg := by
    intro tg kt
    refine XS.iloadN X0.here hx rfl (hb hby d16_0) rfl ?_
    exact kt
  obtain ⟨_, _, ⟨T2, L2, k2, n2⟩, -, X2, ⟨Lc2, hQ2, l2, y2, z2⟩, st2⟩ := Jvm.LawKit.callS X0 hx (y := (⟨"java/lang/StringLatin1", "canEncode", "(I)Z"⟩ : MethodName)) hown (mvT hZ (hw _ (List.mem_of_getElem? (i := 82) rfl))) (mvT hZ (hw _ (List.mem_of_getElem? (i := 83) rfl))) (mvT hZ (hw _ (List.mem_of_getElem? (i := 30) rfl))) (mvT hZ (hw _ (List.mem_of_getElem? (i := 84) rfl))) (by decide) (backOf (W := 0) (rm17 l Z a0 hw []  h0 n0 Z0) hZ (hw _ (List.mem_of_getElem? (i := 84) rfl)) (hw _ (List.mem_of_getElem? (i := 30) rfl)) (by decide) (by decide)) (g := (mkF m 1 #[.val (.ref a1), .val (.int (37 : Int32)), .val (.int (Int32.ofNat f)), .val (.int (Int32.ofNat N))] [(.int (37 : Int32))])) rfl (by rw [hml]; rfl) (argsL := [(.int (37 : Int32))]) (rest := []) (lenOf pd_8 rfl) rfl (by show 2 * 0 + _ ≤ _; exact Nat.le_of_eq rfl) (hb hby d16_1) (fun _ _ => ⟨rfl, e0, (by decide : 0 + 0 ≤ _), (by decide : 0 + 0 ≤ _)⟩)
  dsimp only [Pt.U, Pt.locs, Pt.cells, Pt.slots] at X2 l2 y2 z2 st2 hQ2
  subst l2 y2 z2
  obtain ⟨rfl, N2q, e2⟩ := hQ2
  have N2 := Fr.app N0 N2q
  have st3 : ∀ tg, Steps p.tables e below (T2.setTop (mkF m 11 #[.val (.ref a1), .val (.int (37 : Int32)), .val (.int (Int32.ofNat f)), .val (.int (Int32.ofNat N))] [(.int (0 : Int32)), (.int (Int32.ofNat f))])) tg → Steps p.tables e below (T2.setTop (mkF m 4 #[.val (.ref a1), .val (.int (37 : Int32)), .val (.int (Int32.ofNat f)), .val (.int (Int32.ofNat N))] [(.int (1 : Int32))])) tg := by
    intro tg kt
    refine XS.ifYes X2.here hx rfl (pc0 := 4) (pc' := 9) rfl (hb hby d16_4) rfl (XT.i0_ne_t (by decide)) (by decide) (by decide) ?_
    refine XS.iloadN X2.here hx rfl (hb hby d16_9) rfl ?_
    refine XS.iconst X2.here hx rfl (hb hby d16_10) ?_
    exact kt
  obtain ⟨_, _, ⟨T4, L4, k4, n4⟩, -, X4, ⟨Lc4, hQ4, l4, y4, z4⟩, st4⟩ := Jvm.LawKit.callS X2 hx (y := (⟨"java/lang/Math", "max", "(II)I"⟩ : MethodName)) hown (mvT hZ (hw _ (List.mem_of_getElem? (i := 85) rfl))) (mvT hZ (hw _ (List.mem_of_getElem? (i := 86) rfl))) (mvT hZ (hw _ (List.mem_of_getElem? (i := 87) rfl))) (mvT hZ (hw _ (List.mem_of_getElem? (i := 88) rfl))) (by decide) (backOf (W := 0) (rm18f l Z a0 hw [] f h0 n0 Z0 (own_nn (by omega))) hZ (hw _ (List.mem_of_getElem? (i := 88) rfl)) (hw _ (List.mem_of_getElem? (i := 87) rfl)) (by decide) (by decide)) (g := (mkF m 11 #[.val (.ref a1), .val (.int (37 : Int32)), .val (.int (Int32.ofNat f)), .val (.int (Int32.ofNat N))] [(.int (0 : Int32)), (.int (Int32.ofNat f))])) rfl (by rw [hml]; rfl) (argsL := [(.int (Int32.ofNat f)), (.int (0 : Int32))]) (rest := []) (lenOf pd_9 rfl) rfl (by show 2 * 0 + _ ≤ _; exact Nat.le_of_eq rfl) (hb hby d16_11) (fun _ _ => ⟨rfl, e2, (by decide : 0 + 0 ≤ _), (by decide : 0 + 0 ≤ _)⟩)
  dsimp only [Pt.U, Pt.locs, Pt.cells, Pt.slots] at X4 l4 y4 z4 st4 hQ4
  subst l4 y4 z4
  obtain ⟨rfl, N4q, e4⟩ := hQ4
  have N4 := Fr.app N2 N4q
  have st6 : ∀ tg, Steps p.tables e below (T4.setTop (mkF m 17 #[.val (.ref a1), .val (.int (37 : Int32)), .val (.int (Int32.ofNat f)), .val (.int (Int32.ofNat N))] [(.ref a1), (.int (Int32.ofNat N))])) tg → Steps p.tables e below (T4.setTop (mkF m 14 #[.val (.ref a1), .val (.int (37 : Int32)), .val (.int (Int32.ofNat f)), .val (.int (Int32.ofNat N))] [(.int (Int32.ofNat f))])) tg := by
    intro tg kt
    refine XS.istoreN X4.here hx rfl (hb hby d16_14) rfl (l' := #[.val (.ref a1), .val (.int (37 : Int32)), .val (.int (Int32.ofNat f)), .val (.int (Int32.ofNat N))]) rfl ?_
    refine XS.iloadN X4.here hx rfl (hb hby d16_15) rfl ?_
    refine XS.aloadN X4.here hx rfl (hb hby d16_16) rfl rfl ?_
    exact kt
  obtain ⟨cl5, Ar5, Sa5, Ha5⟩ := id FA
  have st7 : ∀ tg, Steps p.tables e below (T4.setTop (mkF m 18 #[.val (.ref a1), .val (.int (37 : Int32)), .val (.int (Int32.ofNat f)), .val (.int (Int32.ofNat N))] [(.int (Int32.ofNat N)), (.int (Int32.ofNat N))])) tg → Steps p.tables e below (T4.setTop (mkF m 17 #[.val (.ref a1), .val (.int (37 : Int32)), .val (.int (Int32.ofNat f)), .val (.int (Int32.ofNat N))] [(.ref a1), (.int (Int32.ofNat N))])) tg := by
    intro tg kt
    refine X4.arraylength hx (by rw [e4]; exact Ar5.1) (State.isArrayOf_alike hZ.alike Ar5.2.1) (g := (mkF m 17 #[.val (.ref a1), .val (.int (37 : Int32)), .val (.int (Int32.ofNat f)), .val (.int (Int32.ofNat N))] [(.ref a1), (.int (Int32.ofNat N))])) rfl rfl (hb hby d16_17) _ ?_
    rw [show cl5.slots.size.toInt32 = Int32.ofNat N from congrArg Int32.ofNat Sa5]
    exact kt
  obtain ⟨_, _, ⟨T8, L8, k8, n8⟩, -, X8, ⟨Lc8, hQ8, l8, y8, z8⟩, st8⟩ := Jvm.LawKit.callS X4 hx (y := (⟨"java/lang/Math", "min", "(II)I"⟩ : MethodName)) hown (mvT hZ (hw _ (List.mem_of_getElem? (i := 89) rfl))) (mvT hZ (hw _ (List.mem_of_getElem? (i := 90) rfl))) (mvT hZ (hw _ (List.mem_of_getElem? (i := 87) rfl))) (mvT hZ (hw _ (List.mem_of_getElem? (i := 91) rfl))) (by decide) (backOf (W := 0) (rm19f l Z a0 hw [] (Int32.ofNat N) h0 n0 Z0 (own_irr _)) hZ (hw _ (List.mem_of_getElem? (i := 91) rfl)) (hw _ (List.mem_of_getElem? (i := 87) rfl)) (by decide) (by decide)) (g := (mkF m 18 #[.val (.ref a1), .val (.int (37 : Int32)), .val (.int (Int32.ofNat f)), .val (.int (Int32.ofNat N))] [(.int (Int32.ofNat N)), (.int (Int32.ofNat N))])) rfl (by rw [hml]; rfl) (argsL := [(.int (Int32.ofNat N)), (.int (Int32.ofNat N))]) (rest := []) (lenOf pd_9 rfl) rfl (by show 2 * 0 + _ ≤ _; exact Nat.le_of_eq rfl) (hb hby d16_18) (fun _ _ => ⟨rfl, e4, (by decide : 0 + 0 ≤ _), (by decide : 0 + 0 ≤ _)⟩)
  dsimp only [Pt.U, Pt.locs, Pt.cells, Pt.slots] at X8 l8 y8 z8 st8 hQ8
  subst l8 y8 z8
  obtain ⟨rfl, N8q, e8⟩ := hQ8
  have N8 := Fr.app N4 N8q
  have st10 : ∀ tg, Steps p.tables e below (T8.setTop (mkF m 24 #[.val (.ref a1), .val (.int (37 : Int32)), .val (.int (Int32.ofNat f)), .val (.int (Int32.ofNat N))] [(.int (Int32.ofNat N)), (.int (Int32.ofNat f))])) tg → Steps p.tables e below (T8.setTop (mkF m 21 #[.val (.ref a1), .val (.int (37 : Int32)), .val (.int (Int32.ofNat f)), .val (.int (Int32.ofNat N))] [(.int (Int32.ofNat N))])) tg := by
    intro tg kt
    refine XS.istoreN X8.here hx rfl (hb hby d16_21) rfl (l' := #[.val (.ref a1), .val (.int (37 : Int32)), .val (.int (Int32.ofNat f)), .val (.int (Int32.ofNat N))]) rfl ?_
    refine XS.iloadN X8.here hx rfl (hb hby d16_22) rfl ?_
    refine XS.iloadN X8.here hx rfl (hb hby d16_23) rfl ?_
    exact kt
  by_cases hc24_9 : (Int32.ofNat f) < (Int32.ofNat N)
  · -- pc 24: (Int32.ofNat f) < (Int32.ofNat N)
    have hc24_9n : f < N := (own_lt (by omega) (by omega)).mp hc24_9
    have st11 : ∀ tg, Steps p.tables e below (T8.setTop (mkF m 33 #[.val (.ref a1), .val (.int (37 : Int32)), .val (.int (Int32.ofNat f)), .val (.int (Int32.ofNat N))] [(.int (Int32.ofNat N)), (.int (Int32.ofNat f)), (.int (37 : Int32)), (.ref a1)])) tg → Steps p.tables e below (T8.setTop (mkF m 24 #[.val (.ref a1), .val (.int (37 : Int32)), .val (.int (Int32.ofNat f)), .val (.int (Int32.ofNat N))] [(.int (Int32.ofNat N)), (.int (Int32.ofNat f))])) tg := by
      intro tg kt
      refine XS.icmpYes X8.here hx rfl (pc0 := 24) (pc' := 29) rfl (hb hby d16_24) rfl (XT.ii_lt_t hc24_9) (by decide) (by decide) ?_
      refine XS.aloadN X8.here hx rfl (hb hby d16_29) rfl rfl ?_
      refine XS.iloadN X8.here hx rfl (hb hby d16_30) rfl ?_
      refine XS.iloadN X8.here hx rfl (hb hby d16_31) rfl ?_
      show Steps p.tables e below (T8.setTop (mkF m 32 #[.val (.ref a1), .val (.int (37 : Int32)), .val (.int (Int32.ofNat f)), .val (.int (Int32.ofNat N))] [(.int (Int32.ofNat f)), (.int (37 : Int32)), (.ref a1)])) tg
      refine XS.iloadN X8.here hx rfl (hb hby d16_32) rfl ?_
      exact kt
    obtain ⟨_, _, ⟨T12, L12, k12, n12⟩, -, X12, ⟨Lc12, hQ12, l12, y12, z12⟩, st12⟩ := Jvm.LawKit.callS X8 hx (y := (⟨"java/lang/StringLatin1", "indexOfChar", "([BIII)I"⟩ : MethodName)) hown (mvT hZ (hw _ (List.mem_of_getElem? (i := 102) rfl))) (mvT hZ (hw _ (List.mem_of_getElem? (i := 103) rfl))) (mvT hZ (hw _ (List.mem_of_getElem? (i := 30) rfl))) (mvT hZ (hw _ (List.mem_of_getElem? (i := 104) rfl))) (by decide) (backOf (W := 0) (rm23 l Z a0 hw [] a1 N B f h0 n0 Z0 hN hf FA) hZ (hw _ (List.mem_of_getElem? (i := 104) rfl)) (hw _ (List.mem_of_getElem? (i := 30) rfl)) (by decide) (by decide)) (g := (mkF m 33 #[.val (.ref a1), .val (.int (37 : Int32)), .val (.int (Int32.ofNat f)), .val (.int (Int32.ofNat N))] [(.int (Int32.ofNat N)), (.int (Int32.ofNat f)), (.int (37 : Int32)), (.ref a1)])) rfl (by rw [hml]; rfl) (argsL := [(.ref a1), (.int (37 : Int32)), (.int (Int32.ofNat f)), (.int (Int32.ofNat N))]) (rest := []) (lenOf pd_10 rfl) rfl (by show 2 * 0 + _ ≤ _; exact Nat.le_of_eq rfl) (hb hby d16_33) (fun _ _ => ⟨rfl, e8, (by decide : 0 + 0 ≤ _), (by decide : 0 + 0 ≤ _)⟩)
    dsimp only [Pt.U, Pt.locs, Pt.cells, Pt.slots] at X12 l12 y12 z12 st12 hQ12
    subst l12 y12 z12
    obtain ⟨z12, rfl, N12q, e12, Pz12⟩ := hQ12
    have N12 := Fr.app N8 N12q
    obtain ⟨fs, hr, hrun, hended, hW, hsame⟩ := X12.leave (v := some (.int z12)) (fun h => by rw [Bd.returns] at h; cases h)
    refine ⟨_, _, pre0 _ ?_, hrun, hended, _, _, rfl, ?_, ⟨_, rfl⟩, hW, hsame.mono (by decide) (by decide)⟩
    · refine st1 _ ?_
      show Steps p.tables e below (s₁.setTop (mkF m 1 #[.val (.ref a1), .val (.int (37 : Int32)), .val (.int (Int32.ofNat f)), .val (.int (Int32.ofNat N))] [(.int (37 : Int32))])) _
      refine st2 _ ?_
      refine st3 _ ?_
      show Steps p.tables e below (T2.setTop (mkF m 11 #[.val (.ref a1), .val (.int (37 : Int32)), .val (.int (Int32.ofNat f)), .val (.int (Int32.ofNat N))] [(.int (0 : Int32)), (.int (Int32.ofNat f))])) _
      refine st4 _ ?_
      refine st6 _ ?_
      refine st7 _ ?_
      show Steps p.tables e below (T4.setTop (mkF m 18 #[.val (.ref a1), .val (.int (37 : Int32)), .val (.int (Int32.ofNat f)), .val (.int (Int32.ofNat N))] [(.int (Int32.ofNat N)), (.int (Int32.ofNat N))])) _
      refine st8 _ ?_
      refine st10 _ ?_
      refine st11 _ ?_
      show Steps p.tables e below (T8.setTop (mkF m 33 #[.val (.ref a1), .val (.int (37 : Int32)), .val (.int (Int32.ofNat f)), .val (.int (Int32.ofNat N))] [(.int (Int32.ofNat N)), (.int (Int32.ofNat f)), (.int (37 : Int32)), (.ref a1)])) _
      refine st12 _ ?_
      show Steps p.tables e below (T12.setTop (mkF m 36 #[.val (.ref a1), .val (.int (37 : Int32)), .val (.int (Int32.ofNat f)), .val (.int (Int32.ofNat N))] [(.int z12)])) _
      exact retI X12 hx Bd.returns (hb hby d16_36) hr
    · show Q16 Z a1 N B f h0 n0 _ T12.heap _
      rw [e12]
      exact ⟨_, rfl, N12, rfl, Pz12⟩
  · -- pc 24: not (Int32.ofNat f) < (Int32.ofNat N)
    have hc24_9n : ¬ f < N := fun q => hc24_9 ((own_lt (by omega) (by omega)).mpr q)
    have st13 : ∀ tg, Steps p.tables e below (T8.setTop (mkF m 28 #[.val (.ref a1), .val (.int (37 : Int32)), .val (.int (Int32.ofNat f)), .val (.int (Int32.ofNat N))] [(.int (-1 : Int32))])) tg → Steps p.tables e below (T8.setTop (mkF m 24 #[.val (.ref a1), .val (.int (37 : Int32)), .val (.int (Int32.ofNat f)), .val (.int (Int32.ofNat N))] [(.int (Int32.ofNat N)), (.int (Int32.ofNat f))])) tg := by
      intro tg kt
      refine XS.icmpNo X8.here hx rfl (hb hby d16_24) rfl (XT.ii_lt_f hc24_9) ?_
      refine XS.iconst X8.here hx rfl (hb hby d16_27) ?_
      exact kt
    obtain ⟨fs, hr, hrun, hended, hW, hsame⟩ := X8.leave (v := some (.int (-1 : Int32))) (fun h => by rw [Bd.returns] at h; cases h)
    refine ⟨_, _, pre0 _ ?_, hrun, hended, _, _, rfl, ?_, ⟨_, rfl⟩, hW, hsame.mono (by decide) (by decide)⟩
    · refine st1 _ ?_
      show Steps p.tables e below (s₁.setTop (mkF m 1 #[.val (.ref a1), .val (.int (37 : Int32)), .val (.int (Int32.ofNat f)), .val (.int (Int32.ofNat N))] [(.int (37 : Int32))])) _
      refine st2 _ ?_
      refine st3 _ ?_
      show Steps p.tables e below (T2.setTop (mkF m 11 #[.val (.ref a1), .val (.int (37 : Int32)), .val (.int (Int32.ofNat f)), .val (.int (Int32.ofNat N))] [(.int (0 : Int32)), (.int (Int32.ofNat f))])) _
      refine st4 _ ?_
      refine st6 _ ?_
      refine st7 _ ?_
      show Steps p.tables e below (T4.setTop (mkF m 18 #[.val (.ref a1), .val (.int (37 : Int32)), .val (.int (Int32.ofNat f)), .val (.int (Int32.ofNat N))] [(.int (Int32.ofNat N)), (.int (Int32.ofNat N))])) _
      refine st8 _ ?_
      refine st10 _ ?_
      refine st13 _ ?_
      show Steps p.tables e below (T8.setTop (mkF m 28 #[.val (.ref a1), .val (.int (37 : Int32)), .val (.int (Int32.ofNat f)), .val (.int (Int32.ofNat N))] [(.int (-1 : Int32))])) _
      exact retI X8 hx Bd.returns (hb hby d16_28) hr
    · show Q16 Z a1 N B f h0 n0 _ T8.heap _
      rw [e8]
      exact ⟨_, rfl, N8, rfl, own_idx_none (by omega)⟩
theorem d33_0 : decode jdk_52_method_93_code 0 = .ok (.iload_n 0, 1) := by decide +kernel
theorem d33_1 : decode jdk_52_method_93_code 1 = .ok (.iload_n 1, 1) := by decide +kernel
theorem d33_2 : decode jdk_52_method_93_code 2 = .ok (.aload_n 2, 1) := by decide +kernel
theorem d33_3 : decode jdk_52_method_93_code 3 = .ok (.invokestatic 48, 3) := by decide +kernel
theorem d33_6 : decode jdk_52_method_93_code 6 = .ok (.invokestatic 241, 3) := by decide +kernel
theorem d33_9 : decode jdk_52_method_93_code 9 = .ok (.return_, 1) := by decide +kernel
theorem pn_33 : plainName "java/lang/StringUTF16" = true := by first | (simp [plainName, overriddenIn]; done) | decide +kernel
theorem ef_33 (m : MethodId) (y0 : Int32) (y1 : Int32) (a3 : Addr) : entryFrame m #[(.int y0), (.int y1), (.ref a3)] 3 = mkF m 0 #[.val (.int y0), .val (.int y1), .val (.ref a3)] [] := by first | (simp [entryFrame, mkF, argsToLocals, Value.category]; done) | rfl
def Q33 (Z : State) (a3 : Addr) (N : Nat) (B : Nat → Int32) (f : Nat) (fm : Value) (h0 : Heap) (n0 : Nat) (v : Option Value) (h : Heap) (L : List Loc) : Prop := v = none ∧ Fr n0 L ∧ h = h0
set_option maxRecDepth 65536 in
set_option maxHeartbeats 40000000 in
theorem rm33 (l : Launch) (Z : State) (a0 : Array Value) (hw : ∀ d ∈ tables_1, d.before a0 Z = true) (ws : List Jvm.Cond) (a3 : Addr) (N : Nat) (B : Nat → Int32) (f : Nat) (fm : Value) (h0 : Heap) (n0 : Nat) (Z0 : n0 ≤ h0.size) (OLD : Old Z n0 h0) (hfm : fm.isRef = true) (S_f : Sta Z Z.heap "jdk/internal/util/Preconditions" "SIOOBE_FORMATTER" "Ljava/util/function/BiFunction;" fm) (hN : N ≤ 100) (hf : f ≤ N) (FA : ArF Z h0 a3 .byte (2 * N) B) :
    MetFree l (⟨"java/lang/StringUTF16", "checkBoundsBeginEnd", "(II[B)V"⟩ : MethodName) (head1 (Jvm.Cond.code (⟨"java/lang/StringUTF16", "checkBoundsBeginEnd", "(II[B)V"⟩ : MethodName) jdk_52_method_93_code 3 none :: ws) ({ frames := 2, cells := 0, slots := 0, locals := 29 } : Room)) (fun a U => a = #[(.int (Int32.ofNat f)), (.int (Int32.ofNat N)), (.ref a3)] ∧ Z.Warmed39 U.vm ∧ U.heap = h0) (fun _ _ _ _ _ => True) (fun _ U oo U' => ∃ v L, oo = .returned v ∧ Q33 Z a3 N B f fm h0 n0 v U'.heap L ∧ FrameEnd U oo U' L ({ frames := 2, cells := 0, slots := 0, locals := 29 } : Room).cells ({ frames := 2, cells := 0, slots := 0, locals := 29 } : Room).slots) := by
  refine MetFree.of_bodySF (plainFor_of_name pn_33) hisR ?_
  intro p e s m args below meth c s₁ Bd hml0 hP hK
  obtain ⟨rfl, hZ, hh⟩ := hP
  have hx := Bd.exec
  have hby := Bd.bytes
  have hml : c.maxLocals = 3 := hml0
  have hown : s.vm.findClass "java/lang/StringUTF16" = some m.cls := findClass_of_methodNamed Bd.named
  have hnm := (name_of_methodNamed Bd.named Bd.method).1
  have X0 : Stand p l e ({ frames := 2, cells := 0, slots := 0, locals := 29 } : Room) s m #[(.int (Int32.ofNat f)), (.int (Int32.ofNat N)), (.ref a3)] below meth c s₁ [] 0 0 := Stand.of_body Bd
  have e0 : s₁.heap = h0 := by rw [← hh, Bd.state]; rfl
  have N0 := Fr.nil n0
  have K0 : Keep h0 h0 [] := Keep.refl _ _
  have pre0 : ∀ tg, Steps p.tables e below (s₁.setTop (mkF m 0 #[.val (.int (Int32.ofNat f)), .val (.int (Int32.ofNat N)), .val (.ref a3)] [])) tg → Steps p.tables e below (s₁.setTop (entryFrame m #[(.int (Int32.ofNat f)), (.int (Int32.ofNat N)), (.ref a3)] 3)) tg := fun tg k => castTop (ef_33 m (Int32.ofNat f) (Int32.ofNat N) a3) k
  have st1 : ∀ tg, Steps p.tables e below (s₁.setTop (mkF m 3 #[.val (.int (Int32.ofNat f)), .val (.int (Int32.ofNat N)), .val (.ref a3)] [(.ref a3), (.int (Int32.ofNat N)), (.int (Int32.ofNat f))])) tg → Steps p.tables e below (s₁.setTop (mkF m 0 #[.val (.int (Int32.ofNat f)), .val (.int (Int32.ofNat N)), .val (.ref a3)] [])) tg := by
    intro tg kt
    refine XS.iloadN X0.here hx rfl (hb hby d33_0) rfl ?_
    refine XS.iloadN X0.here hx rfl (hb hby d33_1) rfl ?_
    refine XS.aloadN X0.here hx rfl (hb hby d33_2) rfl rfl ?_
    exact kt
  obtain ⟨_, _, ⟨T2, L2, k2, n2⟩, -, X2, ⟨Lc2, hQ2, l2, y2, z2⟩, st2⟩ := Jvm.LawKit.callS X0 hx (y := (⟨"java/lang/StringUTF16", "length", "([B)I"⟩ : MethodName)) hown (mvT hZ (hw _ (List.mem_of_getElem? (i := 144) rfl))) (mvT hZ (hw _ (List.mem_of_getElem? (i := 145) rfl))) (mvT hZ (hw _ (List.mem_of_getElem? (i := 94) rfl))) (mvT hZ (hw _ (List.mem_of_getElem? (i := 146) rfl))) (by decide) (backOf (W := 2) (rm34 l Z a0 hw [] a3 N B h0 n0 Z0 hN FA) hZ (hw _ (List.mem_of_getElem? (i := 146) rfl)) (hw _ (List.mem_of_getElem? (i := 94) rfl)) (by decide) (by decide)) (g := (mkF m 3 #[.val (.int (Int32.ofNat f)), .val (.int (Int32.ofNat N)), .val (.ref a3)] [(.ref a3), (.int (Int32.ofNat N)), (.int (Int32.ofNat f))])) rfl (by rw [hml]; rfl) (argsL := [(.ref a3)]) (rest := [(.int (Int32.ofNat N)), (.int (Int32.ofNat f))]) (lenOf pd_4 rfl) rfl (by show 2 * 0 + _ ≤ _; exact Nat.le_of_eq rfl) (hb hby d33_3) (fun _ _ => ⟨rfl, e0, (by decide : 0 + 0 ≤ _), (by decide : 0 + 0 ≤ _)⟩)
  dsimp only [Pt.U, Pt.locs, Pt.cells, Pt.slots] at X2 l2 y2 z2 st2 hQ2
  subst l2 y2 z2
  obtain ⟨rfl, N2q, e2⟩ := hQ2
  have N2 := Fr.app N0 N2q
  obtain ⟨_, _, ⟨T3, L3, k3, n3⟩, -, X3, ⟨Lc3, hQ3, l3, y3, z3⟩, st3⟩ := Jvm.LawKit.callS X2 hx (y := (⟨"java/lang/String", "checkBoundsBeginEnd", "(III)V"⟩ : MethodName)) hown (mvT hZ (hw _ (List.mem_of_getElem? (i := 147) rfl))) (mvT hZ (hw _ (List.mem_of_getElem? (i := 148) rfl))) (mvT hZ (hw _ (List.mem_of_getElem? (i := 8) rfl))) (mvT hZ (hw _ (List.mem_of_getElem? (i := 149) rfl))) (by decide) (backOf (W := 0) (rm35c l Z a0 hw [] (Int32.ofNat f) (Int32.ofNat N) (Int32.ofNat N) fm h0 n0 Z0 OLD hfm S_f (own_nn (by omega)) (fun q => absurd ((own_lt (by omega) (by omega)).mp q) (by omega)) (own_irr _)) hZ (hw _ (List.mem_of_getElem? (i := 149) rfl)) (hw _ (List.mem_of_getElem? (i := 8) rfl)) (by decide) (by decide)) (g := (mkF m 6 #[.val (.int (Int32.ofNat f)), .val (.int (Int32.ofNat N)), .val (.ref a3)] [(.int (Int32.ofNat N)), (.int (Int32.ofNat N)), (.int (Int32.ofNat f))])) rfl (by rw [hml]; rfl) (argsL := [(.int (Int32.ofNat f)), (.int (Int32.ofNat N)), (.int (Int32.ofNat N))]) (rest := []) (lenOf pd_11 rfl) rfl (by show 2 * 0 + _ ≤ _; exact Nat.le_of_eq rfl) (hb hby d33_6) (fun _ _ => ⟨rfl, e2, (by decide : 0 + 0 ≤ _), (by decide : 0 + 0 ≤ _)⟩)
  dsimp only [Pt.U, Pt.locs, Pt.cells, Pt.slots] at X3 l3 y3 z3 st3 hQ3
  subst l3 y3 z3
  obtain ⟨rfl, N3q, e3⟩ := hQ3
  have N3 := Fr.app N2 N3q
  obtain ⟨fs, hr, hrun, hended, hW, hsame⟩ := X3.leave (v := none) (fun _ => rfl)
  refine ⟨_, _, pre0 _ ?_, hrun, hended, _, _, rfl, ?_, ⟨_, rfl⟩, hW, hsame.mono (by decide) (by decide)⟩
  · refine st1 _ ?_
    show Steps p.tables e below (s₁.setTop (mkF m 3 #[.val (.int (Int32.ofNat f)), .val (.int (Int32.ofNat N)), .val (.ref a3)] [(.ref a3), (.int (Int32.ofNat N)), (.int (Int32.ofNat f))])) _
    refine st2 _ ?_
    show Steps p.tables e below (T2.setTop (mkF m 6 #[.val (.int (Int32.ofNat f)), .val (.int (Int32.ofNat N)), .val (.ref a3)] [(.int (Int32.ofNat N)), (.int (Int32.ofNat N)), (.int (Int32.ofNat f))])) _
    refine st3 _ ?_
    show Steps p.tables e below (T3.setTop (mkF m 9 #[.val (.int (Int32.ofNat f)), .val (.int (Int32.ofNat N)), .val (.ref a3)] [])) _
    exact X3.returnOut hx Bd.returns (hb hby d33_9) hr
  · show Q33 Z a3 N B f fm h0 n0 _ T3.heap _
    rw [e3]
    exact ⟨rfl, N3, rfl⟩
theorem d32_0 : decode jdk_52_method_47_code 0 = .ok (.iload_n 2, 1) := by decide +kernel
theorem d32_1 : decode jdk_52_method_47_code 1 = .ok (.iload_n 3, 1) := by decide +kernel
theorem d32_2 : decode jdk_52_method_47_code 2 = .ok (.aload_n 0, 1) := by decide +kernel
theorem d32_3 : decode jdk_52_method_47_code 3 = .ok (.invokestatic 96, 3) := by decide +kernel
theorem d32_6 : decode jdk_52_method_47_code 6 = .ok (.aload_n 0, 1) := by decide +kernel
theorem d32_7 : decode jdk_52_method_47_code 7 = .ok (.iload_n 1, 1) := by decide +kernel
theorem d32_8 : decode jdk_52_method_47_code 8 = .ok (.iload_n 2, 1) := by decide +kernel
theorem d32_9 : decode jdk_52_method_47_code 9 = .ok (.iload_n 3, 1) := by decide +kernel
theorem d32_10 : decode jdk_52_method_47_code 10 = .ok (.invokestatic 244, 3) := by decide +kernel
theorem d32_13 : decode jdk_52_method_47_code 13 = .ok (.ireturn, 1) := by decide +kernel
theorem pn_32 : plainName "java/lang/StringUTF16" = true := by first | (simp [plainName, overriddenIn]; done) | decide +kernel
theorem ef_32 (m : MethodId) (a1 : Addr) (y2 : Int32) (y3 : Int32) : entryFrame m #[(.ref a1), (.int (37 : Int32)), (.int y2), (.int y3)] 4 = mkF m 0 #[.val (.ref a1), .val (.int (37 : Int32)), .val (.int y2), .val (.int y3)] [] := by first | (simp [entryFrame, mkF, argsToLocals, Value.category]; done) | rfl
def Q32 (Z : State) (a1 : Addr) (N : Nat) (B : Nat → Int32) (f : Nat) (fm : Value) (h0 : Heap) (n0 : Nat) (v : Option Value) (h : Heap) (L : List Loc) : Prop := ∃ z : Int32, v = some (.int z) ∧ Fr n0 L ∧ h = h0 ∧ Idx N (fun j => (D16 (B (2 * j)) (B ((2 * j) + 1))) = (37 : Int32)) f z
set_option maxRecDepth 65536 in
set_option maxHeartbeats 40000000 in
theorem rm32 (l : Launch) (Z : State) (a0 : Array Value) (hw : ∀ d ∈ tables_1, d.before a0 Z = true) (ws : List Jvm.Cond) (a1 : Addr) (N : Nat) (B : Nat → Int32) (f : Nat) (fm : Value) (h0 : Heap) (n0 : Nat) (Z0 : n0 ≤ h0.size) (OLD : Old Z n0 h0) (hfm : fm.isRef = true) (S_f : Sta Z Z.heap "jdk/internal/util/Preconditions" "SIOOBE_FORMATTER" "Ljava/util/function/BiFunction;" fm) (S_a : Sta Z Z.heap "java/lang/StringUTF16" "$assertionsDisabled" "Z" (.int (1 : Int32))) (S_h : Sta Z Z.heap "java/lang/StringUTF16" "HI_BYTE_SHIFT" "I" (.int (0 : Int32))) (S_l : Sta Z Z.heap "java/lang/StringUTF16" "LO_BYTE_SHIFT" "I" (.int (8 : Int32))) (hN : N ≤ 100) (hf : f ≤ N) (FA : ArF Z h0 a1 .byte (2 * N) B) :
    MetFree l (⟨"java/lang/StringUTF16", "indexOfChar", "([BIII)I"⟩ : MethodName) (head1 (Jvm.Cond.code (⟨"java/lang/StringUTF16", "indexOfChar", "([BIII)I"⟩ : MethodName) jdk_52_method_47_code 4 (some .int) :: ws) ({ frames := 3, cells := 0, slots := 0, locals := 43 } : Room)) (fun a U => a = #[(.ref a1), (.int (37 : Int32)), (.int (Int32.ofNat f)), (.int (Int32.ofNat N))] ∧ Z.Warmed39 U.vm ∧ U.heap = h0) (fun _ _ _ _ _ => True) (fun _ U oo U' => ∃ v L, oo = .returned v ∧ Q32 Z a1 N B f fm h0 n0 v U'.heap L ∧ FrameEnd U oo U' L ({ frames := 3, cells := 0, slots := 0, locals := 43 } : Room).cells ({ frames := 3, cells := 0, slots := 0, locals := 43 } : Room).slots) := by
  refine MetFree.of_bodySF (plainFor_of_name pn_32) hisR ?_
  intro p e s m args below meth c s₁ Bd hml0 hP hK
  obtain ⟨rfl, hZ, hh⟩ := hP
  have hx := Bd.exec
  have hby := Bd.bytes
  have hml : c.maxLocals = 4 := hml0
  have hown : s.vm.findClass "java/lang/StringUTF16" = some m.cls := findClass_of_methodNamed Bd.named
  have hnm := (name_of_methodNamed Bd.named Bd.method).1
  have X0 : Stand p l e ({ frames := 3, cells := 0, slots := 0, locals := 43 } : Room) s m #[(.ref a1), (.int (37 : Int32)), (.int (Int32.ofNat f)), (.int (Int32.ofNat N))] below meth c s₁ [] 0 0 := Stand.of_body Bd
  have e0 : s₁.heap = h0 := by rw [← hh, Bd.state]; rfl
  have N0 := Fr.nil n0
  have K0 : Keep h0 h0 [] := Keep.refl _ _
  have pre0 : ∀ tg, Steps p.tables e below (s₁.setTop (mkF m 0 #[.val (.ref a1), .val (.int (37 : Int32)), .val (.int (Int32.ofNat f)), .val (.int (Int32.ofNat N))] [])) tg → Steps p.tables e below (s₁.setTop (entryFrame m #[(.ref a1), (.int (37 : Int32)), (.int (Int32.ofNat f)), (.int (Int32.ofNat N))] 4)) tg := fun tg k => castTop (ef_32 m a1 (Int32.ofNat f) (Int32.ofNat N)) k
  have st1 : ∀ tg, Steps p.tables e below (s₁.setTop (mkF m 3 #[.val (.ref a1), .val (.int (37 : Int32)), .val (.int (Int32.ofNat f)), .val (.int (Int32.ofNat N))] [(.ref a1), (.int (Int32.ofNat N)), (.int (Int32.ofNat f))])) tg → Steps p.tables e below (s₁.setTop (mkF m 0 #[.val (.ref a1), .val (.int (37 : Int32)), .val (.int (Int32.ofNat f)), .val (.int (Int32.ofNat N))] [])) tg := by
    intro tg kt
    refine XS.iloadN X0.here hx rfl (hb hby d32_0) rfl ?_
    refine XS.iloadN X0.here hx rfl (hb hby d32_1) rfl ?_
    refine XS.aloadN X0.here hx rfl (hb hby d32_2) rfl rfl ?_
    exact kt
  obtain ⟨_, _, ⟨T2, L2, k2, n2⟩, -, X2, ⟨Lc2, hQ2, l2, y2, z2⟩, st2⟩ := Jvm.LawKit.callS X0 hx (y := (⟨"java/lang/StringUTF16", "checkBoundsBeginEnd", "(II[B)V"⟩ : MethodName)) hown (mvT hZ (hw _ (List.mem_of_getElem? (i := 141) rfl))) (mvT hZ (hw _ (List.mem_of_getElem? (i := 142) rfl))) (mvT hZ (hw _ (List.mem_of_getElem? (i := 94) rfl))) (mvT hZ (hw _ (List.mem_of_getElem? (i := 143) rfl))) (by decide) (backOf (W := 0) (rm33 l Z a0 hw [] a1 N B f fm h0 n0 Z0 OLD hfm S_f hN hf FA) hZ (hw _ (List.mem_of_getElem? (i := 143) rfl)) (hw _ (List.mem_of_getElem? (i := 94) rfl)) (by decide) (by decide)) (g := (mkF m 3 #[.val (.ref a1), .val (.int (37 : Int32)), .val (.int (Int32.ofNat f)), .val (.int (Int32.ofNat N))] [(.ref a1), (.int (Int32.ofNat N)), (.int (Int32.ofNat f))])) rfl (by rw [hml]; rfl) (argsL := [(.int (Int32.ofNat f)), (.int (Int32.ofNat N)), (.ref a1)]) (rest := []) (lenOf pd_12 rfl) rfl (by show 2 * 0 + _ ≤ _; exact Nat.le_of_eq rfl) (hb hby d32_3) (fun _ _ => ⟨rfl, e0, (by decide : 0 + 0 ≤ _), (by decide : 0 + 0 ≤ _)⟩)
  dsimp only [Pt.U, Pt.locs, Pt.cells, Pt.slots] at X2 l2 y2 z2 st2 hQ2
  subst l2 y2 z2
  obtain ⟨rfl, N2q, e2⟩ := hQ2
  have N2 := Fr.app N0 N2q
  have st3 : ∀ tg, Steps p.tables e below (T2.setTop (mkF m 10 #[.val (.ref a1), .val (.int (37 : Int32)), .val (.int (Int32.ofNat f)), .val (.int (Int32.ofNat N))] [(.int (Int32.ofNat N)), (.int (Int32.ofNat f)), (.int (37 : Int32)), (.ref a1)])) tg → Steps p.tables e below (T2.setTop (mkF m 6 #[.val (.ref a1), .val (.int (37 : Int32)), .val (.int (Int32.ofNat f)), .val (.int (Int32.ofNat N))] [])) tg := by
    intro tg kt
    refine XS.aloadN X2.here hx rfl (hb hby d32_6) rfl rfl ?_
    refine XS.iloadN X2.here hx rfl (hb hby d32_7) rfl ?_
    refine XS.iloadN X2.here hx rfl (hb hby d32_8) rfl ?_
    refine XS.iloadN X2.here hx rfl (hb hby d32_9) rfl ?_
    exact kt
  obtain ⟨_, _, ⟨T4, L4, k4, n4⟩, -, X4, ⟨Lc4, hQ4, l4, y4, z4⟩, st4⟩ := Jvm.LawKit.callS X2 hx (y := (⟨"java/lang/StringUTF16", "indexOfCharUnsafe", "([BIII)I"⟩ : MethodName)) hown (mvT hZ (hw _ (List.mem_of_getElem? (i := 153) rfl))) (mvT hZ (hw _ (List.mem_of_getElem? (i := 154) rfl))) (mvT hZ (hw _ (List.mem_of_getElem? (i := 94) rfl))) (mvT hZ (hw _ (List.mem_of_getElem? (i := 155) rfl))) (by decide) (backOf (W := 0) (rm37 l Z a0 hw [] a1 N B f h0 n0 Z0 OLD S_a S_h S_l hN hf FA) hZ (hw _ (List.mem_of_getElem? (i := 155) rfl)) (hw _ (List.mem_of_getElem? (i := 94) rfl)) (by decide) (by decide)) (g := (mkF m 10 #[.val (.ref a1), .val (.int (37 : Int32)), .val (.int (Int32.ofNat f)), .val (.int (Int32.ofNat N))] [(.int (Int32.ofNat N)), (.int (Int32.ofNat f)), (.int (37 : Int32)), (.ref a1)])) rfl (by rw [hml]; rfl) (argsL := [(.ref a1), (.int (37 : Int32)), (.int (Int32.ofNat f)), (.int (Int32.ofNat N))]) (rest := []) (lenOf pd_10 rfl) rfl (by show 2 * 0 + _ ≤ _; exact Nat.le_of_eq rfl) (hb hby d32_10) (fun _ _ => ⟨rfl, e2, (by decide : 0 + 0 ≤ _), (by decide : 0 + 0 ≤ _)⟩)
  dsimp only [Pt.U, Pt.locs, Pt.cells, Pt.slots] at X4 l4 y4 z4 st4 hQ4
  subst l4 y4 z4
  obtain ⟨z4, rfl, N4q, e4, Pz4⟩ := hQ4
  have N4 := Fr.app N2 N4q
  obtain ⟨fs, hr, hrun, hended, hW, hsame⟩ := X4.leave (v := some (.int z4)) (fun h => by rw [Bd.returns] at h; cases h)
  refine ⟨_, _, pre0 _ ?_, hrun, hended, _, _, rfl, ?_, ⟨_, rfl⟩, hW, hsame.mono (by decide) (by decide)⟩
  · refine st1 _ ?_
    show Steps p.tables e below (s₁.setTop (mkF m 3 #[.val (.ref a1), .val (.int (37 : Int32)), .val (.int (Int32.ofNat f)), .val (.int (Int32.ofNat N))] [(.ref a1), (.int (Int32.ofNat N)), (.int (Int32.ofNat f))])) _
    refine st2 _ ?_
    refine st3 _ ?_
    show Steps p.tables e below (T2.setTop (mkF m 10 #[.val (.ref a1), .val (.int (37 : Int32)), .val (.int (Int32.ofNat f)), .val (.int (Int32.ofNat N))] [(.int (Int32.ofNat N)), (.int (Int32.ofNat f)), (.int (37 : Int32)), (.ref a1)])) _
    refine st4 _ ?_
    show Steps p.tables e below (T4.setTop (mkF m 13 #[.val (.ref a1), .val (.int (37 : Int32)), .val (.int (Int32.ofNat f)), .val (.int (Int32.ofNat N))] [(.int z4)])) _
    exact retI X4 hx Bd.returns (hb hby d32_13) hr
  · show Q32 Z a1 N B f fm h0 n0 _ T4.heap _
    rw [e4]
    exact ⟨_, rfl, N4, rfl, Pz4⟩
theorem d31_0 : decode jdk_52_method_40_code 0 = .ok (.iload_n 2, 1) := by decide +kernel
theorem d31_1 : decode jdk_52_method_40_code 1 = .ok (.iconst 0, 1) := by decide +kernel
theorem d31_2 : decode jdk_52_method_40_code 2 = .ok (.invokestatic 224, 3) := by decide +kernel
theorem d31_5 : decode jdk_52_method_40_code 5 = .ok (.istore_n 2, 1) := by decide +kernel
theorem d31_6 : decode jdk_52_method_40_code 6 = .ok (.iload_n 3, 1) := by decide +kernel
theorem d31_7 : decode jdk_52_method_40_code 7 = .ok (.aload_n 0, 1) := by decide +kernel
theorem d31_8 : decode jdk_52_method_40_code 8 = .ok (.arraylength, 1) := by decide +kernel
theorem d31_9 : decode jdk_52_method_40_code 9 = .ok (.iconst 1, 1) := by decide +kernel
theorem d31_10 : decode jdk_52_method_40_code 10 = .ok (.ishr, 1) := by decide +kernel
theorem d31_11 : decode jdk_52_method_40_code 11 = .ok (.invokestatic 183, 3) := by decide +kernel
theorem d31_14 : decode jdk_52_method_40_code 14 = .ok (.istore_n 3, 1) := by decide +kernel
theorem d31_15 : decode jdk_52_method_40_code 15 = .ok (.iload_n 2, 1) := by decide +kernel
theorem d31_16 : decode jdk_52_method_40_code 16 = .ok (.iload_n 3, 1) := by decide +kernel
theorem d31_17 : decode jdk_52_method_40_code 17 = .ok (.if_icmp .lt 5, 3) := by decide +kernel
theorem d31_20 : decode jdk_52_method_40_code 20 = .ok (.iconst (-1), 1) := by decide +kernel
theorem d31_21 : decode jdk_52_method_40_code 21 = .ok (.ireturn, 1) := by decide +kernel
theorem d31_22 : decode jdk_52_method_40_code 22 = .ok (.iload_n 1, 1) := by decide +kernel
theorem d31_23 : decode jdk_52_method_40_code 23 = .ok (.ldc 227, 2) := by decide +kernel
theorem d31_25 : decode jdk_52_method_40_code 25 = .ok (.if_icmp .ge 11, 3) := by decide +kernel
theorem d31_28 : decode jdk_52_method_40_code 28 = .ok (.aload_n 0, 1) := by decide +kernel
theorem d31_29 : decode jdk_52_method_40_code 29 = .ok (.iload_n 1, 1) := by decide +kernel
theorem d31_30 : decode jdk_52_method_40_code 30 = .ok (.iload_n 2, 1) := by decide +kernel
theorem d31_31 : decode jdk_52_method_40_code 31 = .ok (.iload_n 3, 1) := by decide +kernel
theorem d31_32 : decode jdk_52_method_40_code 32 = .ok (.invokestatic 228, 3) := by decide +kernel
theorem d31_35 : decode jdk_52_method_40_code 35 = .ok (.ireturn, 1) := by decide +kernel
theorem pn_31 : plainName "java/lang/StringUTF16" = true := by first | (simp [plainName, overriddenIn]; done) | decide +kernel
theorem ef_31 (m : MethodId) (a1 : Addr) (y2 : Int32) (y3 : Int32) : entryFrame m #[(.ref a1), (.int (37 : Int32)), (.int y2), (.int y3)] 4 = mkF m 0 #[.val (.ref a1), .val (.int (37 : Int32)), .val (.int y2), .val (.int y3)] [] := by first | (simp [entryFrame, mkF, argsToLocals, Value.category]; done) | rfl
def Q31 (Z : State) (a1 : Addr) (N : Nat) (B : Nat → Int32) (f : Nat) (fm : Value) (h0 : Heap) (n0 : Nat) (v : Option Value) (h : Heap) (L : List Loc) : Prop := ∃ z : Int32, v = some (.int z) ∧ Fr n0 L ∧ h = h0 ∧ Idx N (fun j => (D16 (B (2 * j)) (B ((2 * j) + 1))) = (37 : Int32)) f z
set_option maxRecDepth 65536 in
set_option maxHeartbeats 40000000 in
theorem rm31 (l : Launch) (Z : State) (a0 : Array Value) (hw : ∀ d ∈ tables_1, d.before a0 Z = true) (ws : List Jvm.Cond) (a1 : Addr) (N : Nat) (B : Nat → Int32) (f : Nat) (fm : Value) (h0 : Heap) (n0 : Nat) (Z0 : n0 ≤ h0.size) (OLD : Old Z n0 h0) (hfm : fm.isRef = true) (S_f : Sta Z Z.heap "jdk/internal/util/Preconditions" "SIOOBE_FORMATTER" "Ljava/util/function/BiFunction;" fm) (S_a : Sta Z Z.heap "java/lang/StringUTF16" "$assertionsDisabled" "Z" (.int (1 : Int32))) (S_h : Sta Z Z.heap "java/lang/StringUTF16" "HI_BYTE_SHIFT" "I" (.int (0 : Int32))) (S_l : Sta Z Z.heap "java/lang/StringUTF16" "LO_BYTE_SHIFT" "I" (.int (8 : Int32))) (hN : N ≤ 100) (hf : f ≤ N) (FA : ArF Z h0 a1 .byte (2 * N) B) :
    MetFree l (⟨"java/lang/StringUTF16", "indexOf", "([BIII)I"⟩ : MethodName) (head1 (Jvm.Cond.code (⟨"java/lang/StringUTF16", "indexOf", "([BIII)I"⟩ : MethodName) jdk_52_method_40_code 4 (some .int) :: ws) ({ frames := 4, cells := 0, slots := 0, locals := 58 } : Room)) (fun a U => a = #[(.ref a1), (.int (37 : Int32)), (.int (Int32.ofNat f)), (.int (Int32.ofNat N))] ∧ Z.Warmed39 U.vm ∧ U.heap = h0) (fun _ _ _ _ _ => True) (fun _ U oo U' => ∃ v L, oo = .returned v ∧ Q31 Z a1 N B f fm h0 n0 v U'.heap L ∧ FrameEnd U oo U' L ({ frames := 4, cells := 0, slots := 0, locals := 58 } : Room).cells ({ frames := 4, cells := 0, slots := 0, locals := 58 } : Room).slots) := by
  refine MetFree.of_bodySF (plainFor_of_name pn_31) hisR ?_
  intro p e s m args below meth c s₁ Bd hml0 hP hK
  obtain ⟨rfl, hZ, hh⟩ := hP
  have hx := Bd.exec
  have hby := Bd.bytes
  have hml : c.maxLocals = 4 := hml0
  have hown : s.vm.findClass "java/lang/StringUTF16" = some m.cls := findClass_of_methodNamed Bd.named
  have hnm := (name_of_methodNamed Bd.named Bd.method).1
  have X0 : Stand p l e ({ frames := 4, cells := 0, slots := 0, locals := 58 } : Room) s m #[(.ref a1), (.int (37 : Int32)), (.int (Int32.ofNat f)), (.int (Int32.ofNat N))] below meth c s₁ [] 0 0 := Stand.of_body Bd
  have e0 : s₁.heap = h0 := by rw [← hh, Bd.state]; rfl
  have N0 := Fr.nil n0
  have K0 : Keep h0 h0 [] := Keep.refl _ _
  have pre0 : ∀ tg, Steps p.tables e below (s₁.setTop (mkF m 0 #[.val (.ref a1), .val (.int (37 : Int32)), .val (.int (Int32.ofNat f)), .val (.int (Int32.ofNat N))] [])) tg → Steps p.tables e below (s₁.setTop (entryFrame m #[(.ref a1), (.int (37 : Int32)), (.int (Int32.ofNat f)), (.int (Int32.ofNat N))] 4)) tg := fun tg k => castTop (ef_31 m a1 (Int32.ofNat f) (Int32.ofNat N)) k
  have st1 : ∀ tg, Steps p.tables e below (s₁.setTop (mkF m 2 #[.val (.ref a1), .val (.int (37 : Int32)), .val (.int (Int32.ofNat f)), .val (.int (Int32.ofNat N))] [(.int (0 : Int32)), (.int (Int32.ofNat f))])) tg → Steps p.tables e below (s₁.setTop (mkF m 0 #[.val (.ref a1), .val (.int (37 : Int32)), .val (.int (Int32.ofNat f)), .val (.int (Int32.ofNat N))] [])) tg := by
    intro tg kt
    refine XS.iloadN X0.here hx rfl (hb hby d31_0) rfl ?_
    refine XS.iconst X0.here hx rfl (hb hby d31_1) ?_
    exact kt
  obtain ⟨_, _, ⟨T2, L2, k2, n2⟩, -, X2, ⟨Lc2, hQ2, l2, y2, z2⟩, st2⟩ := Jvm.LawKit.callS X0 hx (y := (⟨"java/lang/Math", "max", "(II)I"⟩ : MethodName)) hown (mvT hZ (hw _ (List.mem_of_getElem? (i := 135) rfl))) (mvT hZ (hw _ (List.mem_of_getElem? (i := 86) rfl))) (mvT hZ (hw _ (List.mem_of_getElem? (i := 87) rfl))) (mvT hZ (hw _ (List.mem_of_getElem? (i := 88) rfl))) (by decide) (backOf (W := 0) (rm18f l Z a0 hw [] f h0 n0 Z0 (own_nn (by omega))) hZ (hw _ (List.mem_of_getElem? (i := 88) rfl)) (hw _ (List.mem_of_getElem? (i := 87) rfl)) (by decide) (by decide)) (g := (mkF m 2 #[.val (.ref a1), .val (.int (37 : Int32)), .val (.int (Int32.ofNat f)), .val (.int (Int32.ofNat N))] [(.int (0 : Int32)), (.int (Int32.ofNat f))])) rfl (by rw [hml]; rfl) (argsL := [(.int (Int32.ofNat f)), (.int (0 : Int32))]) (rest := []) (lenOf pd_9 rfl) rfl (by show 2 * 0 + _ ≤ _; exact Nat.le_of_eq rfl) (hb hby d31_2) (fun _ _ => ⟨rfl, e0, (by decide : 0 + 0 ≤ _), (by decide : 0 + 0 ≤ _)⟩)
  dsimp only [Pt.U, Pt.locs, Pt.cells, Pt.slots] at X2 l2 y2 z2 st2 hQ2
  subst l2 y2 z2
  obtain ⟨rfl, N2q, e2⟩ := hQ2
  have N2 := Fr.app N0 N2q
  have st4 : ∀ tg, Steps p.tables e below (T2.setTop (mkF m 8 #[.val (.ref a1), .val (.int (37 : Int32)), .val (.int (Int32.ofNat f)), .val (.int (Int32.ofNat N))] [(.ref a1), (.int (Int32.ofNat N))])) tg → Steps p.tables e below (T2.setTop (mkF m 5 #[.val (.ref a1), .val (.int (37 : Int32)), .val (.int (Int32.ofNat f)), .val (.int (Int32.ofNat N))] [(.int (Int32.ofNat f))])) tg := by
    intro tg kt
    refine XS.istoreN X2.here hx rfl (hb hby d31_5) rfl (l' := #[.val (.ref a1), .val (.int (37 : Int32)), .val (.int (Int32.ofNat f)), .val (.int (Int32.ofNat N))]) rfl ?_
    refine XS.iloadN X2.here hx rfl (hb hby d31_6) rfl ?_
    refine XS.aloadN X2.here hx rfl (hb hby d31_7) rfl rfl ?_
    exact kt
  obtain ⟨cl3, Ar3, Sa3, Ha3⟩ := id FA
  have st5 : ∀ tg, Steps p.tables e below (T2.setTop (mkF m 11 #[.val (.ref a1), .val (.int (37 : Int32)), .val (.int (Int32.ofNat f)), .val (.int (Int32.ofNat N))] [(.int ((Int32.ofNat (2 * N)) >>> ((1 : Int32) &&& 31))), (.int (Int32.ofNat N))])) tg → Steps p.tables e below (T2.setTop (mkF m 8 #[.val (.ref a1), .val (.int (37 : Int32)), .val (.int (Int32.ofNat f)), .val (.int (Int32.ofNat N))] [(.ref a1), (.int (Int32.ofNat N))])) tg := by
    intro tg kt
    refine X2.arraylength hx (by rw [e2]; exact Ar3.1) (State.isArrayOf_alike hZ.alike Ar3.2.1) (g := (mkF m 8 #[.val (.ref a1), .val (.int (37 : Int32)), .val (.int (Int32.ofNat f)), .val (.int (Int32.ofNat N))] [(.ref a1), (.int (Int32.ofNat N))])) rfl rfl (hb hby d31_8) _ ?_
    rw [show cl3.slots.size.toInt32 = Int32.ofNat (2 * N) from congrArg Int32.ofNat Sa3]
    refine XS.iconst X2.here hx rfl (hb hby d31_9) ?_
    refine XS.ishr X2.here hx rfl (hb hby d31_10) rfl ?_
    exact kt
  have eq6 : ((Int32.ofNat (2 * N)) >>> ((1 : Int32) &&& 31)) = (Int32.ofNat N) := own_shr1 (by omega)
  rw [eq6] at st5
  obtain ⟨_, _, ⟨T7, L7, k7, n7⟩, -, X7, ⟨Lc7, hQ7, l7, y7, z7⟩, st7⟩ := Jvm.LawKit.callS X2 hx (y := (⟨"java/lang/Math", "min", "(II)I"⟩ : MethodName)) hown (mvT hZ (hw _ (List.mem_of_getElem? (i := 136) rfl))) (mvT hZ (hw _ (List.mem_of_getElem? (i := 90) rfl))) (mvT hZ (hw _ (List.mem_of_getElem? (i := 87) rfl))) (mvT hZ (hw _ (List.mem_of_getElem? (i := 91) rfl))) (by decide) (backOf (W := 0) (rm19f l Z a0 hw [] (Int32.ofNat N) h0 n0 Z0 (own_irr _)) hZ (hw _ (List.mem_of_getElem? (i := 91) rfl)) (hw _ (List.mem_of_getElem? (i := 87) rfl)) (by decide) (by decide)) (g := (mkF m 11 #[.val (.ref a1), .val (.int (37 : Int32)), .val (.int (Int32.ofNat f)), .val (.int (Int32.ofNat N))] [(.int (Int32.ofNat N)), (.int (Int32.ofNat N))])) rfl (by rw [hml]; rfl) (argsL := [(.int (Int32.ofNat N)), (.int (Int32.ofNat N))]) (rest := []) (lenOf pd_9 rfl) rfl (by show 2 * 0 + _ ≤ _; exact Nat.le_of_eq rfl) (hb hby d31_11) (fun _ _ => ⟨rfl, e2, (by decide : 0 + 0 ≤ _), (by decide : 0 + 0 ≤ _)⟩)
  dsimp only [Pt.U, Pt.locs, Pt.cells, Pt.slots] at X7 l7 y7 z7 st7 hQ7
  subst l7 y7 z7
  obtain ⟨rfl, N7q, e7⟩ := hQ7
  have N7 := Fr.app N2 N7q
  have st9 : ∀ tg, Steps p.tables e below (T7.setTop (mkF m 17 #[.val (.ref a1), .val (.int (37 : Int32)), .val (.int (Int32.ofNat f)), .val (.int (Int32.ofNat N))] [(.int (Int32.ofNat N)), (.int (Int32.ofNat f))])) tg → Steps p.tables e below (T7.setTop (mkF m 14 #[.val (.ref a1), .val (.int (37 : Int32)), .val (.int (Int32.ofNat f)), .val (.int (Int32.ofNat N))] [(.int (Int32.ofNat N))])) tg := by
    intro tg kt
    refine XS.istoreN X7.here hx rfl (hb hby d31_14) rfl (l' := #[.val (.ref a1), .val (.int (37 : Int32)), .val (.int (Int32.ofNat f)), .val (.int (Int32.ofNat N))]) rfl ?_
    refine XS.iloadN X7.here hx rfl (hb hby d31_15) rfl ?_
    refine XS.iloadN X7.here hx rfl (hb hby d31_16) rfl ?_
    exact kt
  by_cases hc17_8 : (Int32.ofNat f) < (Int32.ofNat N)
  · -- pc 17: (Int32.ofNat f) < (Int32.ofNat N)
    have hc17_8n : f < N := (own_lt (by omega) (by omega)).mp hc17_8
    have st10 : ∀ tg, Steps p.tables e below (T7.setTop (mkF m 32 #[.val (.ref a1), .val (.int (37 : Int32)), .val (.int (Int32.ofNat f)), .val (.int (Int32.ofNat N))] [(.int (Int32.ofNat N)), (.int (Int32.ofNat f)), (.int (37 : Int32)), (.ref a1)])) tg → Steps p.tables e below (T7.setTop (mkF m 17 #[.val (.ref a1), .val (.int (37 : Int32)), .val (.int (Int32.ofNat f)), .val (.int (Int32.ofNat N))] [(.int (Int32.ofNat N)), (.int (Int32.ofNat f))])) tg := by
      intro tg kt
      refine XS.icmpYes X7.here hx rfl (pc0 := 17) (pc' := 22) rfl (hb hby d31_17) rfl (XT.ii_lt_t hc17_8) (by decide) (by decide) ?_
      refine XS.iloadN X7.here hx rfl (hb hby d31_22) rfl ?_
      refine X7.ldcInt hx hown (mvT hZ (hw _ (List.mem_of_getElem? (i := 137) rfl))) (g := (mkF m 23 #[.val (.ref a1), .val (.int (37 : Int32)), .val (.int (Int32.ofNat f)), .val (.int (Int32.ofNat N))] [(.int (37 : Int32))])) rfl (hb hby d31_23) _ ?_
      refine XS.icmpNo X7.here hx rfl (hb hby d31_25) rfl (XT.ii_ge_f (by decide)) ?_
      show Steps p.tables e below (T7.setTop (mkF m 28 #[.val (.ref a1), .val (.int (37 : Int32)), .val (.int (Int32.ofNat f)), .val (.int (Int32.ofNat N))] [])) tg
      refine XS.aloadN X7.here hx rfl (hb hby d31_28) rfl rfl ?_
      refine XS.iloadN X7.here hx rfl (hb hby d31_29) rfl ?_
      refine XS.iloadN X7.here hx rfl (hb hby d31_30) rfl ?_
      refine XS.iloadN X7.here hx rfl (hb hby d31_31) rfl ?_
      exact kt
    obtain ⟨_, _, ⟨T11, L11, k11, n11⟩, -, X11, ⟨Lc11, hQ11, l11, y11, z11⟩, st11⟩ := Jvm.LawKit.callS X7 hx (y := (⟨"java/lang/StringUTF16", "indexOfChar", "([BIII)I"⟩ : MethodName)) hown (mvT hZ (hw _ (List.mem_of_getElem? (i := 138) rfl))) (mvT hZ (hw _ (List.mem_of_getElem? (i := 139) rfl))) (mvT hZ (hw _ (List.mem_of_getElem? (i := 94) rfl))) (mvT hZ (hw _ (List.mem_of_getElem? (i := 140) rfl))) (by decide) (backOf (W := 0) (rm32 l Z a0 hw [] a1 N B f fm h0 n0 Z0 OLD hfm S_f S_a S_h S_l hN hf FA) hZ (hw _ (List.mem_of_getElem? (i := 140) rfl)) (hw _ (List.mem_of_getElem? (i := 94) rfl)) (by decide) (by decide)) (g := (mkF m 32 #[.val (.ref a1), .val (.int (37 : Int32)), .val (.int (Int32.ofNat f)), .val (.int (Int32.ofNat N))] [(.int (Int32.ofNat N)), (.int (Int32.ofNat f)), (.int (37 : Int32)), (.ref a1)])) rfl (by rw [hml]; rfl) (argsL := [(.ref a1), (.int (37 : Int32)), (.int (Int32.ofNat f)), (.int (Int32.ofNat N))]) (rest := []) (lenOf pd_10 rfl) rfl (by show 2 * 0 + _ ≤ _; exact Nat.le_of_eq rfl) (hb hby d31_32) (fun _ _ => ⟨rfl, e7, (by decide : 0 + 0 ≤ _), (by decide : 0 + 0 ≤ _)⟩)
    dsimp only [Pt.U, Pt.locs, Pt.cells, Pt.slots] at X11 l11 y11 z11 st11 hQ11
    subst l11 y11 z11
    obtain ⟨z11, rfl, N11q, e11, Pz11⟩ := hQ11
    have N11 := Fr.app N7 N11q
    obtain ⟨fs, hr, hrun, hended, hW, hsame⟩ := X11.leave (v := some (.int z11)) (fun h => by rw [Bd.returns] at h; cases h)
    refine ⟨_, _, pre0 _ ?_, hrun, hended, _, _, rfl, ?_, ⟨_, rfl⟩, hW, hsame.mono (by decide) (by decide)⟩
    · refine st1 _ ?_
      show Steps p.tables e below (s₁.setTop (mkF m 2 #[.val (.ref a1), .val (.int (37 : Int32)), .val (.int (Int32.ofNat f)), .val (.int (Int32.ofNat N))] [(.int (0 : Int32)), (.int (Int32.ofNat f))])) _
      refine st2 _ ?_
      refine st4 _ ?_
      refine st5 _ ?_
      show Steps p.tables e below (T2.setTop (mkF m 11 #[.val (.ref a1), .val (.int (37 : Int32)), .val (.int (Int32.ofNat f)), .val (.int (Int32.ofNat N))] [(.int (Int32.ofNat N)), (.int (Int32.ofNat N))])) _
      refine st7 _ ?_
      refine st9 _ ?_
      refine st10 _ ?_
      show Steps p.tables e below (T7.setTop (mkF m 32 #[.val (.ref a1), .val (.int (37 : Int32)), .val (.int (Int32.ofNat f)), .val (.int (Int32.ofNat N))] [(.int (Int32.ofNat N)), (.int (Int32.ofNat f)), (.int (37 : Int32)), (.ref a1)])) _
      refine st11 _ ?_
      show Steps p.tables e below (T11.setTop (mkF m 35 #[.val (.ref a1), .val (.int (37 : Int32)), .val (.int (Int32.ofNat f)), .val (.int (Int32.ofNat N))] [(.int z11)])) _
      exact retI X11 hx Bd.returns (hb hby d31_35) hr
    · show Q31 Z a1 N B f fm h0 n0 _ T11.heap _
      rw [e11]
      exact ⟨_, rfl, N11, rfl, Pz11⟩
  · -- pc 17: not (Int32.ofNat f) < (Int32.ofNat N)
    have hc17_8n : ¬ f < N := fun q => hc17_8 ((own_lt (by omega) (by omega)).mpr q)
    have st12 : ∀ tg, Steps p.tables e below (T7.setTop (mkF m 21 #[.val (.ref a1), .val (.int (37 : Int32)), .val (.int (Int32.ofNat f)), .val (.int (Int32.ofNat N))] [(.int (-1 : Int32))])) tg → Steps p.tables e below (T7.setTop (mkF m 17 #[.val (.ref a1), .val (.int (37 : Int32)), .val (.int (Int32.ofNat f)), .val (.int (Int32.ofNat N))] [(.int (Int32.ofNat N)), (.int (Int32.ofNat f))])) tg := by
      intro tg kt
      refine XS.icmpNo X7.here hx rfl (hb hby d31_17) rfl (XT.ii_lt_f hc17_8) ?_
      refine XS.iconst X7.here hx rfl (hb hby d31_20) ?_
      exact kt
    obtain ⟨fs, hr, hrun, hended, hW, hsame⟩ := X7.leave (v := some (.int (-1 : Int32))) (fun h => by rw [Bd.returns] at h; cases h)
    refine ⟨_, _, pre0 _ ?_, hrun, hended, _, _, rfl, ?_, ⟨_, rfl⟩, hW, hsame.mono (by decide) (by decide)⟩
    · refine st1 _ ?_
      show Steps p.tables e below (s₁.setTop (mkF m 2 #[.val (.ref a1), .val (.int (37 : Int32)), .val (.int (Int32.ofNat f)), .val (.int (Int32.ofNat N))] [(.int (0 : Int32)), (.int (Int32.ofNat f))])) _
      refine st2 _ ?_
      refine st4 _ ?_
      refine st5 _ ?_
      show Steps p.tables e below (T2.setTop (mkF m 11 #[.val (.ref a1), .val (.int (37 : Int32)), .val (.int (Int32.ofNat f)), .val (.int (Int32.ofNat N))] [(.int (Int32.ofNat N)), (.int (Int32.ofNat N))])) _
      refine st7 _ ?_
      refine st9 _ ?_
      refine st12 _ ?_
      show Steps p.tables e below (T7.setTop (mkF m 21 #[.val (.ref a1), .val (.int (37 : Int32)), .val (.int (Int32.ofNat f)), .val (.int (Int32.ofNat N))] [(.int (-1 : Int32))])) _
      exact retI X7 hx Bd.returns (hb hby d31_21) hr
    · show Q31 Z a1 N B f fm h0 n0 _ T7.heap _
      rw [e7]
      exact ⟨_, rfl, N7, rfl, own_idx_none (by omega)⟩
theorem d13_0 : decode jdk_42_method_80_code 0 = .ok (.aload_n 0, 1) := by decide +kernel
theorem d13_1 : decode jdk_42_method_80_code 1 = .ok (.invokevirtual 492, 3) := by decide +kernel
theorem d13_4 : decode jdk_42_method_80_code 4 = .ok (.ifCond .eq 19, 3) := by decide +kernel
theorem d13_7 : decode jdk_42_method_80_code 7 = .ok (.aload_n 0, 1) := by decide +kernel
theorem d13_8 : decode jdk_42_method_80_code 8 = .ok (.getfield 9, 3) := by decide +kernel
theorem d13_11 : decode jdk_42_method_80_code 11 = .ok (.iload_n 1, 1) := by decide +kernel
theorem d13_12 : decode jdk_42_method_80_code 12 = .ok (.iload_n 2, 1) := by decide +kernel
theorem d13_13 : decode jdk_42_method_80_code 13 = .ok (.aload_n 0, 1) := by decide +kernel
theorem d13_14 : decode jdk_42_method_80_code 14 = .ok (.invokevirtual 505, 3) := by decide +kernel
theorem d13_17 : decode jdk_42_method_80_code 17 = .ok (.invokestatic 637, 3) := by decide +kernel
theorem d13_20 : decode jdk_42_method_80_code 20 = .ok (.goto 16, 3) := by decide +kernel
theorem d13_36 : decode jdk_42_method_80_code 36 = .ok (.ireturn, 1) := by decide +kernel
theorem pn_13 : plainName "java/lang/String" = true := by first | (simp [plainName, overriddenIn]; done) | decide +kernel
theorem ef_13l (m : MethodId) (a1 : Addr) (y2 : Int32) : entryFrame m #[(.ref a1), (.int (37 : Int32)), (.int y2)] 3 = mkF m 0 #[.val (.ref a1), .val (.int (37 : Int32)), .val (.int y2)] [] := by first | (simp [entryFrame, mkF, argsToLocals, Value.category]; done) | rfl
def Q13l (Z : State) (a1 : Addr) (t1 : Addr) (N : Nat) (B : Nat → Int32) (f : Nat) (wc : Int32) (fm : Value) (h0 : Heap) (n0 : Nat) (v : Option Value) (h : Heap) (L : List Loc) : Prop := ∃ z : Int32, v = some (.int z) ∧ Fr n0 L ∧ h = h0 ∧ Idx N (fun j => (B j) = (37 : Int32)) f z
set_option maxRecDepth 65536 in
set_option maxHeartbeats 40000000 in
theorem rm13l (l : Launch) (Z : State) (a0 : Array Value) (hw : ∀ d ∈ tables_1, d.before a0 Z = true) (ws : List Jvm.Cond) (a1 : Addr) (t1 : Addr) (N : Nat) (B : Nat → Int32) (f : Nat) (wc : Int32) (fm : Value) (h0 : Heap) (n0 : Nat) (Z0 : n0 ≤ h0.size) (OLD : Old Z n0 h0) (S_c : Sta Z Z.heap "java/lang/String" "COMPACT_STRINGS" "Z" (.int wc)) (hwc : ¬ wc = 0) (hfm : fm.isRef = true) (S_f : Sta Z Z.heap "jdk/internal/util/Preconditions" "SIOOBE_FORMATTER" "Ljava/util/function/BiFunction;" fm) (S_a : Sta Z Z.heap "java/lang/StringUTF16" "$assertionsDisabled" "Z" (.int (1 : Int32))) (S_h : Sta Z Z.heap "java/lang/StringUTF16" "HI_BYTE_SHIFT" "I" (.int (0 : Int32))) (S_l : Sta Z Z.heap "java/lang/StringUTF16" "LO_BYTE_SHIFT" "I" (.int (8 : Int32))) (hN : N ≤ 100) (hf : f ≤ N) (FE : Exa Z h0 a1 "java/lang/String") (FC : Fld Z h0 a1 "java/lang/String" "coder" "B" (.int (0 : Int32))) (FV : Fld Z h0 a1 "java/lang/String" "value" "[B" (.ref t1)) (FA : ArF Z h0 t1 .byte N B) :
    MetFree l (⟨"java/lang/String", "indexOf", "(II)I"⟩ : MethodName) (head1 (Jvm.Cond.code (⟨"java/lang/String", "indexOf", "(II)I"⟩ : MethodName) jdk_42_method_80_code 3 (some .int) :: ws) ({ frames := 7, cells := 0, slots := 0, locals := 150 } : Room)) (fun a U => a = #[(.ref a1), (.int (37 : Int32)), (.int (Int32.ofNat f))] ∧ Z.Warmed39 U.vm ∧ U.heap = h0) (fun _ _ _ _ _ => True) (fun _ U oo U' => ∃ v L, oo = .returned v ∧ Q13l Z a1 t1 N B f wc fm h0 n0 v U'.heap L ∧ FrameEnd U oo U' L ({ frames := 7, cells := 0, slots := 0, locals := 150 } : Room).cells ({ frames := 7, cells := 0, slots := 0, locals := 150 } : Room).slots) := by
  refine MetFree.of_bodySF (plainFor_of_name pn_13) hisR ?_
  intro p e s m args below meth c s₁ Bd hml0 hP hK
  obtain ⟨rfl, hZ, hh⟩ := hP
  have hx := Bd.exec
  have hby := Bd.bytes
  have hml : c.maxLocals = 3 := hml0
  have hown : s.vm.findClass "java/lang/String" = some m.cls := findClass_of_methodNamed Bd.named
  have hnm := (name_of_methodNamed Bd.named Bd.method).1
  have X0 : Stand p l e ({ frames := 7, cells := 0, slots := 0, locals := 150 } : Room) s m #[(.ref a1), (.int (37 : Int32)), (.int (Int32.ofNat f))] below meth c s₁ [] 0 0 := Stand.of_body Bd
  have e0 : s₁.heap = h0 := by rw [← hh, Bd.state]; rfl
  have N0 := Fr.nil n0
  have K0 : Keep h0 h0 [] := Keep.refl _ _
  have pre0 : ∀ tg, Steps p.tables e below (s₁.setTop (mkF m 0 #[.val (.ref a1), .val (.int (37 : Int32)), .val (.int (Int32.ofNat f))] [])) tg → Steps p.tables e below (s₁.setTop (entryFrame m #[(.ref a1), (.int (37 : Int32)), (.int (Int32.ofNat f))] 3)) tg := fun tg k => castTop (ef_13l m a1 (Int32.ofNat f)) k
  have st1 : ∀ tg, Steps p.tables e below (s₁.setTop (mkF m 1 #[.val (.ref a1), .val (.int (37 : Int32)), .val (.int (Int32.ofNat f))] [(.ref a1)])) tg → Steps p.tables e below (s₁.setTop (mkF m 0 #[.val (.ref a1), .val (.int (37 : Int32)), .val (.int (Int32.ofNat f))] [])) tg := by
    intro tg kt
    refine XS.aloadN X0.here hx rfl (hb hby d13_0) rfl rfl ?_
    exact kt
  obtain ⟨cq2, kq2, q2a, q2b, q2c⟩ := isOf hZ e0 FE
  obtain ⟨_, _, ⟨T2, L2, k2, n2⟩, -, X2, ⟨Lc2, hQ2, l2, y2, z2⟩, st2⟩ := X0.virtualBack hx (y := (⟨"java/lang/String", "isLatin1", "()Z"⟩ : MethodName)) (z := (⟨"java/lang/String", "isLatin1", "()Z"⟩ : MethodName)) hown (mvT hZ (hw _ (List.mem_of_getElem? (i := 20) rfl))) (mvT hZ (hw _ (List.mem_of_getElem? (i := 21) rfl))) (notFace_of_selects (args := #[]) (mvT hZ (hw _ (List.mem_of_getElem? (i := 23) rfl)))) (mvT hZ (hw _ (List.mem_of_getElem? (i := 23) rfl))) (mvT hZ (hw _ (List.mem_of_getElem? (i := 22) rfl))) (by decide) (backOf (W := 0) (rm3l l Z a0 hw [] a1 wc h0 n0 Z0 OLD S_c hwc FC) hZ (hw _ (List.mem_of_getElem? (i := 24) rfl)) (hw _ (List.mem_of_getElem? (i := 8) rfl)) (by decide) (by decide)) q2a q2c (g := (mkF m 1 #[.val (.ref a1), .val (.int (37 : Int32)), .val (.int (Int32.ofNat f))] [(.ref a1)])) rfl (by rw [hml]; rfl) (Steps.refl _) (argsL := []) (rest := []) (lenOf pd_7 rfl) rfl (by show 2 * 0 + _ ≤ _; exact Nat.le_of_eq rfl) (hb hby d13_1) (fun _ _ => ⟨rfl, e0, (by decide : 0 + 0 ≤ _), (by decide : 0 + 0 ≤ _)⟩)
  dsimp only [Pt.U, Pt.locs, Pt.cells, Pt.slots] at X2 l2 y2 z2 st2 hQ2
  subst l2 y2 z2
  obtain ⟨rfl, N2q, e2⟩ := hQ2
  have N2 := Fr.app N0 N2q
  have st3 : ∀ tg, Steps p.tables e below (T2.setTop (mkF m 8 #[.val (.ref a1), .val (.int (37 : Int32)), .val (.int (Int32.ofNat f))] [(.ref a1)])) tg → Steps p.tables e below (T2.setTop (mkF m 4 #[.val (.ref a1), .val (.int (37 : Int32)), .val (.int (Int32.ofNat f))] [(.int (1 : Int32))])) tg := by
    intro tg kt
    refine XS.ifNo X2.here hx rfl (hb hby d13_4) rfl (XT.i0_eq_f (by decide)) ?_
    refine XS.aloadN X2.here hx rfl (hb hby d13_7) rfl rfl ?_
    exact kt
  obtain ⟨T4, X4, e4, st4⟩ := getF X2 hx hZ hown (host := "") (Or.inl (hw _ (List.mem_of_getElem? (i := 27) rfl))) Via.refl e2 FV (g := (mkF m 8 #[.val (.ref a1), .val (.int (37 : Int32)), .val (.int (Int32.ofNat f))] [(.ref a1)])) rfl rfl (hb hby d13_8)
  have st5 : ∀ tg, Steps p.tables e below (T4.setTop (mkF m 14 #[.val (.ref a1), .val (.int (37 : Int32)), .val (.int (Int32.ofNat f))] [(.ref a1), (.int (Int32.ofNat f)), (.int (37 : Int32)), (.ref t1)])) tg → Steps p.tables e below (T4.setTop (mkF m 11 #[.val (.ref a1), .val (.int (37 : Int32)), .val (.int (Int32.ofNat f))] [(.ref t1)])) tg := by
    intro tg kt
    refine XS.iloadN X4.here hx rfl (hb hby d13_11) rfl ?_
    refine XS.iloadN X4.here hx rfl (hb hby d13_12) rfl ?_
    refine XS.aloadN X4.here hx rfl (hb hby d13_13) rfl rfl ?_
    exact kt
  obtain ⟨cq6, kq6, q6a, q6b, q6c⟩ := isOf hZ e4 FE
  obtain ⟨_, _, ⟨T6, L6, k6, n6⟩, -, X6, ⟨Lc6, hQ6, l6, y6, z6⟩, st6⟩ := X4.virtualBack hx (y := (⟨"java/lang/String", "length", "()I"⟩ : MethodName)) (z := (⟨"java/lang/String", "length", "()I"⟩ : MethodName)) hown (mvT hZ (hw _ (List.mem_of_getElem? (i := 69) rfl))) (mvT hZ (hw _ (List.mem_of_getElem? (i := 70) rfl))) (notFace_of_selects (args := #[]) (mvT hZ (hw _ (List.mem_of_getElem? (i := 72) rfl)))) (mvT hZ (hw _ (List.mem_of_getElem? (i := 72) rfl))) (mvT hZ (hw _ (List.mem_of_getElem? (i := 71) rfl))) (by decide) (backOf (W := 3) (rm14l l Z a0 hw [] a1 t1 N B wc h0 n0 Z0 OLD S_c hwc hN FE FC FV FA) hZ (hw _ (List.mem_of_getElem? (i := 73) rfl)) (hw _ (List.mem_of_getElem? (i := 8) rfl)) (by decide) (by decide)) q6a q6c (g := (mkF m 14 #[.val (.ref a1), .val (.int (37 : Int32)), .val (.int (Int32.ofNat f))] [(.ref a1), (.int (Int32.ofNat f)), (.int (37 : Int32)), (.ref t1)])) rfl (by rw [hml]; rfl) (Steps.refl _) (argsL := []) (rest := [(.int (Int32.ofNat f)), (.int (37 : Int32)), (.ref t1)]) (lenOf pd_13 rfl) rfl (by show 2 * 0 + _ ≤ _; exact Nat.le_of_eq rfl) (hb hby d13_14) (fun _ _ => ⟨rfl, e4, (by decide : 0 + 0 ≤ _), (by decide : 0 + 0 ≤ _)⟩)
  dsimp only [Pt.U, Pt.locs, Pt.cells, Pt.slots] at X6 l6 y6 z6 st6 hQ6
  subst l6 y6 z6
  obtain ⟨rfl, N6q, e6⟩ := hQ6
  have N6 := Fr.app N2 N6q
  obtain ⟨_, _, ⟨T7, L7, k7, n7⟩, -, X7, ⟨Lc7, hQ7, l7, y7, z7⟩, st7⟩ := Jvm.LawKit.callS X6 hx (y := (⟨"java/lang/StringLatin1", "indexOf", "([BIII)I"⟩ : MethodName)) hown (mvT hZ (hw _ (List.mem_of_getElem? (i := 79) rfl))) (mvT hZ (hw _ (List.mem_of_getElem? (i := 80) rfl))) (mvT hZ (hw _ (List.mem_of_getElem? (i := 30) rfl))) (mvT hZ (hw _ (List.mem_of_getElem? (i := 81) rfl))) (by decide) (backOf (W := 0) (rm16 l Z a0 hw [] t1 N B f h0 n0 Z0 hN hf FA) hZ (hw _ (List.mem_of_getElem? (i := 81) rfl)) (hw _ (List.mem_of_getElem? (i := 30) rfl)) (by decide) (by decide)) (g := (mkF m 17 #[.val (.ref a1), .val (.int (37 : Int32)), .val (.int (Int32.ofNat f))] [(.int (Int32.ofNat N)), (.int (Int32.ofNat f)), (.int (37 : Int32)), (.ref t1)])) rfl (by rw [hml]; rfl) (argsL := [(.ref t1), (.int (37 : Int32)), (.int (Int32.ofNat f)), (.int (Int32.ofNat N))]) (rest := []) (lenOf pd_10 rfl) rfl (by show 2 * 0 + _ ≤ _; exact Nat.le_of_eq rfl) (hb hby d13_17) (fun _ _ => ⟨rfl, e6, (by decide : 0 + 0 ≤ _), (by decide : 0 + 0 ≤ _)⟩)
  dsimp only [Pt.U, Pt.locs, Pt.cells, Pt.slots] at X7 l7 y7 z7 st7 hQ7
  subst l7 y7 z7
  obtain ⟨z7, rfl, N7q, e7, Pz7⟩ := hQ7
  have N7 := Fr.app N6 N7q
  have st8 : ∀ tg, Steps p.tables e below (T7.setTop (mkF m 36 #[.val (.ref a1), .val (.int (37 : Int32)), .val (.int (Int32.ofNat f))] [(.int z7)])) tg → Steps p.tables e below (T7.setTop (mkF m 20 #[.val (.ref a1), .val (.int (37 : Int32)), .val (.int (Int32.ofNat f))] [(.int z7)])) tg := by
    intro tg kt
    refine XS.goto X7.here hx rfl (pc0 := 20) (pc' := 36) rfl (hb hby d13_20) (by decide) (by decide) ?_
    exact kt
  obtain ⟨fs, hr, hrun, hended, hW, hsame⟩ := X7.leave (v := some (.int z7)) (fun h => by rw [Bd.returns] at h; cases h)
  refine ⟨_, _, pre0 _ ?_, hrun, hended, _, _, rfl, ?_, ⟨_, rfl⟩, hW, hsame.mono (by decide) (by decide)⟩
  · refine st1 _ ?_
    show Steps p.tables e below (s₁.setTop (mkF m 1 #[.val (.ref a1), .val (.int (37 : Int32)), .val (.int (Int32.ofNat f))] [(.ref a1)])) _
    refine st2.trans ?_
    refine st3 _ ?_
    show Steps p.tables e below (T2.setTop (mkF m 8 #[.val (.ref a1), .val (.int (37 : Int32)), .val (.int (Int32.ofNat f))] [(.ref a1)])) _
    refine st4 _ ?_
    refine st5 _ ?_
    show Steps p.tables e below (T4.setTop (mkF m 14 #[.val (.ref a1), .val (.int (37 : Int32)), .val (.int (Int32.ofNat f))] [(.ref a1), (.int (Int32.ofNat f)), (.int (37 : Int32)), (.ref t1)])) _
    refine st6.trans ?_
    show Steps p.tables e below (T6.setTop (mkF m 17 #[.val (.ref a1), .val (.int (37 : Int32)), .val (.int (Int32.ofNat f))] [(.int (Int32.ofNat N)), (.int (Int32.ofNat f)), (.int (37 : Int32)), (.ref t1)])) _
    refine st7 _ ?_
    refine st8 _ ?_
    show Steps p.tables e below (T7.setTop (mkF m 36 #[.val (.ref a1), .val (.int (37 : Int32)), .val (.int (Int32.ofNat f))] [(.int z7)])) _
    exact retI X7 hx Bd.returns (hb hby d13_36) hr
  · show Q13l Z a1 t1 N B f wc fm h0 n0 _ T7.heap _
    rw [e7]
    exact ⟨_, rfl, N7, rfl, Pz7⟩
theorem d13_23 : decode jdk_42_method_80_code 23 = .ok (.aload_n 0, 1) := by decide +kernel
theorem d13_24 : decode jdk_42_method_80_code 24 = .ok (.getfield 9, 3) := by decide +kernel
theorem d13_27 : decode jdk_42_method_80_code 27 = .ok (.iload_n 1, 1) := by decide +kernel
theorem d13_28 : decode jdk_42_method_80_code 28 = .ok (.iload_n 2, 1) := by decide +kernel
theorem d13_29 : decode jdk_42_method_80_code 29 = .ok (.aload_n 0, 1) := by decide +kernel
theorem d13_30 : decode jdk_42_method_80_code 30 = .ok (.invokevirtual 505, 3) := by decide +kernel
theorem d13_33 : decode jdk_42_method_80_code 33 = .ok (.invokestatic 640, 3) := by decide +kernel
theorem ef_13u (m : MethodId) (a1 : Addr) (y2 : Int32) : entryFrame m #[(.ref a1), (.int (37 : Int32)), (.int y2)] 3 = mkF m 0 #[.val (.ref a1), .val (.int (37 : Int32)), .val (.int y2)] [] := by first | (simp [entryFrame, mkF, argsToLocals, Value.category]; done) | rfl
def Q13u (Z : State) (a1 : Addr) (t1 : Addr) (N : Nat) (B : Nat → Int32) (f : Nat) (wc : Int32) (fm : Value) (h0 : Heap) (n0 : Nat) (v : Option Value) (h : Heap) (L : List Loc) : Prop := ∃ z : Int32, v = some (.int z) ∧ Fr n0 L ∧ h = h0 ∧ Idx N (fun j => (D16 (B (2 * j)) (B ((2 * j) + 1))) = (37 : Int32)) f z
set_option maxRecDepth 65536 in
set_option maxHeartbeats 40000000 in
theorem rm13u (l : Launch) (Z : State) (a0 : Array Value) (hw : ∀ d ∈ tables_1, d.before a0 Z = true) (ws : List Jvm.Cond) (a1 : Addr) (t1 : Addr) (N : Nat) (B : Nat → Int32) (f : Nat) (wc : Int32) (fm : Value) (h0 : Heap) (n0 : Nat) (Z0 : n0 ≤ h0.size) (OLD : Old Z n0 h0) (S_c : Sta Z Z.heap "java/lang/String" "COMPACT_STRINGS" "Z" (.int wc)) (hwc : ¬ wc = 0) (hfm : fm.isRef = true) (S_f : Sta Z Z.heap "jdk/internal/util/Preconditions" "SIOOBE_FORMATTER" "Ljava/util/function/BiFunction;" fm) (S_a : Sta Z Z.heap "java/lang/StringUTF16" "$assertionsDisabled" "Z" (.int (1 : Int32))) (S_h : Sta Z Z.heap "java/lang/StringUTF16" "HI_BYTE_SHIFT" "I" (.int (0 : Int32))) (S_l : Sta Z Z.heap "java/lang/StringUTF16" "LO_BYTE_SHIFT" "I" (.int (8 : Int32))) (hN : N ≤ 100) (hf : f ≤ N) (FE : Exa Z h0 a1 "java/lang/String") (FC : Fld Z h0 a1 "java/lang/String" "coder" "B" (.int (1 : Int32))) (FV : Fld Z h0 a1 "java/lang/String" "value" "[B" (.ref t1)) (FA : ArF Z h0 t1 .byte (2 * N) B) :
    MetFree l (⟨"java/lang/String", "indexOf", "(II)I"⟩ : MethodName) (head1 (Jvm.Cond.code (⟨"java/lang/String", "indexOf", "(II)I"⟩ : MethodName) jdk_42_method_80_code 3 (some .int) :: ws) ({ frames := 7, cells := 0, slots := 0, locals := 150 } : Room)) (fun a U => a = #[(.ref a1), (.int (37 : Int32)), (.int (Int32.ofNat f))] ∧ Z.Warmed39 U.vm ∧ U.heap = h0) (fun _ _ _ _ _ => True) (fun _ U oo U' => ∃ v L, oo = .returned v ∧ Q13u Z a1 t1 N B f wc fm h0 n0 v U'.heap L ∧ FrameEnd U oo U' L ({ frames := 7, cells := 0, slots := 0, locals := 150 } : Room).cells ({ frames := 7, cells := 0, slots := 0, locals := 150 } : Room).slots) := by
  refine MetFree.of_bodySF (plainFor_of_name pn_13) hisR ?_
  intro p e s m args below meth c s₁ Bd hml0 hP hK
  obtain ⟨rfl, hZ, hh⟩ := hP
  have hx := Bd.exec
  have hby := Bd.bytes
  have hml : c.maxLocals = 3 := hml0
  have hown : s.vm.findClass "java/lang/String" = some m.cls := findClass_of_methodNamed Bd.named
  have hnm := (name_of_methodNamed Bd.named Bd.method).1
  have X0 : Stand p l e ({ frames := 7, cells := 0, slots := 0, locals := 150 } : Room) s m #[(.ref a1), (.int (37 : Int32)), (.int (Int32.ofNat f))] below meth c s₁ [] 0 0 := Stand.of_body Bd
  have e0 : s₁.heap = h0 := by rw [← hh, Bd.state]; rfl
  have N0 := Fr.nil n0
  have K0 : Keep h0 h0 [] := Keep.refl _ _
  have pre0 : ∀ tg, Steps p.tables e below (s₁.setTop (mkF m 0 #[.val (.ref a1), .val (.int (37 : Int32)), .val (.int (Int32.ofNat f))] [])) tg → Steps p.tables e below (s₁.setTop (entryFrame m #[(.ref a1), (.int (37 : Int32)), (.int (Int32.ofNat f))] 3)) tg := fun tg k => castTop (ef_13u m a1 (Int32.ofNat f)) k
  have st1 : ∀ tg, Steps p.tables e below (s₁.setTop (mkF m 1 #[.val (.ref a1), .val (.int (37 : Int32)), .val (.int (Int32.ofNat f))] [(.ref a1)])) tg → Steps p.tables e below (s₁.setTop (mkF m 0 #[.val (.ref a1), .val (.int (37 : Int32)), .val (.int (Int32.ofNat f))] [])) tg := by
    intro tg kt
    refine XS.aloadN X0.here hx rfl (hb hby d13_0) rfl rfl ?_
    exact kt
  obtain ⟨cq2, kq2, q2a, q2b, q2c⟩ := isOf hZ e0 FE
  obtain ⟨_, _, ⟨T2, L2, k2, n2⟩, -, X2, ⟨Lc2, hQ2, l2, y2, z2⟩, st2⟩ := X0.virtualBack hx (y := (⟨"java/lang/String", "isLatin1", "()Z"⟩ : MethodName)) (z := (⟨"java/lang/String", "isLatin1", "()Z"⟩ : MethodName)) hown (mvT hZ (hw _ (List.mem_of_getElem? (i := 20) rfl))) (mvT hZ (hw _ (List.mem_of_getElem? (i := 21) rfl))) (notFace_of_selects (args := #[]) (mvT hZ (hw _ (List.mem_of_getElem? (i := 23) rfl)))) (mvT hZ (hw _ (List.mem_of_getElem? (i := 23) rfl))) (mvT hZ (hw _ (List.mem_of_getElem? (i := 22) rfl))) (by decide) (backOf (W := 0) (rm3u l Z a0 hw [] a1 wc h0 n0 Z0 OLD S_c hwc FC) hZ (hw _ (List.mem_of_getElem? (i := 24) rfl)) (hw _ (List.mem_of_getElem? (i := 8) rfl)) (by decide) (by decide)) q2a q2c (g := (mkF m 1 #[.val (.ref a1), .val (.int (37 : Int32)), .val (.int (Int32.ofNat f))] [(.ref a1)])) rfl (by rw [hml]; rfl) (Steps.refl _) (argsL := []) (rest := []) (lenOf pd_7 rfl) rfl (by show 2 * 0 + _ ≤ _; exact Nat.le_of_eq rfl) (hb hby d13_1) (fun _ _ => ⟨rfl, e0, (by decide : 0 + 0 ≤ _), (by decide : 0 + 0 ≤ _)⟩)
  dsimp only [Pt.U, Pt.locs, Pt.cells, Pt.slots] at X2 l2 y2 z2 st2 hQ2
  subst l2 y2 z2
  obtain ⟨rfl, N2q, e2⟩ := hQ2
  have N2 := Fr.app N0 N2q
  have st3 : ∀ tg, Steps p.tables e below (T2.setTop (mkF m 24 #[.val (.ref a1), .val (.int (37 : Int32)), .val (.int (Int32.ofNat f))] [(.ref a1)])) tg → Steps p.tables e below (T2.setTop (mkF m 4 #[.val (.ref a1), .val (.int (37 : Int32)), .val (.int (Int32.ofNat f))] [(.int (0 : Int32))])) tg := by
    intro tg kt
    refine XS.ifYes X2.here hx rfl (pc0 := 4) (pc' := 23) rfl (hb hby d13_4) rfl (XT.i0_eq_t (by decide)) (by decide) (by decide) ?_
    refine XS.aloadN X2.here hx rfl (hb hby d13_23) rfl rfl ?_
    exact kt
  obtain ⟨T4, X4, e4, st4⟩ := getF X2 hx hZ hown (host := "") (Or.inl (hw _ (List.mem_of_getElem? (i := 27) rfl))) Via.refl e2 FV (g := (mkF m 24 #[.val (.ref a1), .val (.int (37 : Int32)), .val (.int (Int32.ofNat f))] [(.ref a1)])) rfl rfl (hb hby d13_24)
  have st5 : ∀ tg, Steps p.tables e below (T4.setTop (mkF m 30 #[.val (.ref a1), .val (.int (37 : Int32)), .val (.int (Int32.ofNat f))] [(.ref a1), (.int (Int32.ofNat f)), (.int (37 : Int32)), (.ref t1)])) tg → Steps p.tables e below (T4.setTop (mkF m 27 #[.val (.ref a1), .val (.int (37 : Int32)), .val (.int (Int32.ofNat f))] [(.ref t1)])) tg := by
    intro tg kt
    refine XS.iloadN X4.here hx rfl (hb hby d13_27) rfl ?_
    refine XS.iloadN X4.here hx rfl (hb hby d13_28) rfl ?_
    refine XS.aloadN X4.here hx rfl (hb hby d13_29) rfl rfl ?_
    exact kt
  obtain ⟨cq6, kq6, q6a, q6b, q6c⟩ := isOf hZ e4 FE
  obtain ⟨_, _, ⟨T6, L6, k6, n6⟩, -, X6, ⟨Lc6, hQ6, l6, y6, z6⟩, st6⟩ := X4.virtualBack hx (y := (⟨"java/lang/String", "length", "()I"⟩ : MethodName)) (z := (⟨"java/lang/String", "length", "()I"⟩ : MethodName)) hown (mvT hZ (hw _ (List.mem_of_getElem? (i := 69) rfl))) (mvT hZ (hw _ (List.mem_of_getElem? (i := 70) rfl))) (notFace_of_selects (args := #[]) (mvT hZ (hw _ (List.mem_of_getElem? (i := 72) rfl)))) (mvT hZ (hw _ (List.mem_of_getElem? (i := 72) rfl))) (mvT hZ (hw _ (List.mem_of_getElem? (i := 71) rfl))) (by decide) (backOf (W := 3) (rm14u l Z a0 hw [] a1 t1 N B wc h0 n0 Z0 OLD S_c hwc hN FE FC FV FA) hZ (hw _ (List.mem_of_getElem? (i := 73) rfl)) (hw _ (List.mem_of_getElem? (i := 8) rfl)) (by decide) (by decide)) q6a q6c (g := (mkF m 30 #[.val (.ref a1), .val (.int (37 : Int32)), .val (.int (Int32.ofNat f))] [(.ref a1), (.int (Int32.ofNat f)), (.int (37 : Int32)), (.ref t1)])) rfl (by rw [hml]; rfl) (Steps.refl _) (argsL := []) (rest := [(.int (Int32.ofNat f)), (.int (37 : Int32)), (.ref t1)]) (lenOf pd_13 rfl) rfl (by show 2 * 0 + _ ≤ _; exact Nat.le_of_eq rfl) (hb hby d13_30) (fun _ _ => ⟨rfl, e4, (by decide : 0 + 0 ≤ _), (by decide : 0 + 0 ≤ _)⟩)
  dsimp only [Pt.U, Pt.locs, Pt.cells, Pt.slots] at X6 l6 y6 z6 st6 hQ6
  subst l6 y6 z6
  obtain ⟨rfl, N6q, e6⟩ := hQ6
  have N6 := Fr.app N2 N6q
  obtain ⟨_, _, ⟨T7, L7, k7, n7⟩, -, X7, ⟨Lc7, hQ7, l7, y7, z7⟩, st7⟩ := Jvm.LawKit.callS X6 hx (y := (⟨"java/lang/StringUTF16", "indexOf", "([BIII)I"⟩ : MethodName)) hown (mvT hZ (hw _ (List.mem_of_getElem? (i := 132) rfl))) (mvT hZ (hw _ (List.mem_of_getElem? (i := 133) rfl))) (mvT hZ (hw _ (List.mem_of_getElem? (i := 94) rfl))) (mvT hZ (hw _ (List.mem_of_getElem? (i := 134) rfl))) (by decide) (backOf (W := 0) (rm31 l Z a0 hw [] t1 N B f fm h0 n0 Z0 OLD hfm S_f S_a S_h S_l hN hf FA) hZ (hw _ (List.mem_of_getElem? (i := 134) rfl)) (hw _ (List.mem_of_getElem? (i := 94) rfl)) (by decide) (by decide)) (g := (mkF m 33 #[.val (.ref a1), .val (.int (37 : Int32)), .val (.int (Int32.ofNat f))] [(.int (Int32.ofNat N)), (.int (Int32.ofNat f)), (.int (37 : Int32)), (.ref t1)])) rfl (by rw [hml]; rfl) (argsL := [(.ref t1), (.int (37 : Int32)), (.int (Int32.ofNat f)), (.int (Int32.ofNat N))]) (rest := []) (lenOf pd_10 rfl) rfl (by show 2 * 0 + _ ≤ _; exact Nat.le_of_eq rfl) (hb hby d13_33) (fun _ _ => ⟨rfl, e6, (by decide : 0 + 0 ≤ _), (by decide : 0 + 0 ≤ _)⟩)
  dsimp only [Pt.U, Pt.locs, Pt.cells, Pt.slots] at X7 l7 y7 z7 st7 hQ7
  subst l7 y7 z7
  obtain ⟨z7, rfl, N7q, e7, Pz7⟩ := hQ7
  have N7 := Fr.app N6 N7q
  obtain ⟨fs, hr, hrun, hended, hW, hsame⟩ := X7.leave (v := some (.int z7)) (fun h => by rw [Bd.returns] at h; cases h)
  refine ⟨_, _, pre0 _ ?_, hrun, hended, _, _, rfl, ?_, ⟨_, rfl⟩, hW, hsame.mono (by decide) (by decide)⟩
  · refine st1 _ ?_
    show Steps p.tables e below (s₁.setTop (mkF m 1 #[.val (.ref a1), .val (.int (37 : Int32)), .val (.int (Int32.ofNat f))] [(.ref a1)])) _
    refine st2.trans ?_
    refine st3 _ ?_
    show Steps p.tables e below (T2.setTop (mkF m 24 #[.val (.ref a1), .val (.int (37 : Int32)), .val (.int (Int32.ofNat f))] [(.ref a1)])) _
    refine st4 _ ?_
    refine st5 _ ?_
    show Steps p.tables e below (T4.setTop (mkF m 30 #[.val (.ref a1), .val (.int (37 : Int32)), .val (.int (Int32.ofNat f))] [(.ref a1), (.int (Int32.ofNat f)), (.int (37 : Int32)), (.ref t1)])) _
    refine st6.trans ?_
    show Steps p.tables e below (T6.setTop (mkF m 33 #[.val (.ref a1), .val (.int (37 : Int32)), .val (.int (Int32.ofNat f))] [(.int (Int32.ofNat N)), (.int (Int32.ofNat f)), (.int (37 : Int32)), (.ref t1)])) _
    refine st7 _ ?_
    show Steps p.tables e below (T7.setTop (mkF m 36 #[.val (.ref a1), .val (.int (37 : Int32)), .val (.int (Int32.ofNat f))] [(.int z7)])) _
    exact retI X7 hx Bd.returns (hb hby d13_36) hr
  · show Q13u Z a1 t1 N B f wc fm h0 n0 _ T7.heap _
    rw [e7]
    exact ⟨_, rfl, N7, rfl, Pz7⟩
def Q13c (Z : State) (a1 : Addr) (N : Nat) (C : Nat → Int32) (f : Nat) (wc : Int32) (fm : Value) (h0 : Heap) (n0 : Nat) (v : Option Value) (h : Heap) (L : List Loc) : Prop := ∃ z : Int32, v = some (.int z) ∧ Fr n0 L ∧ h = h0 ∧ Idx N (fun j => C j = (37 : Int32)) f z
theorem rm13c (l : Launch) (Z : State) (a0 : Array Value) (hw : ∀ d ∈ tables_1, d.before a0 Z = true) (ws : List Jvm.Cond) (a1 : Addr) (N : Nat) (C : Nat → Int32) (f : Nat) (wc : Int32) (fm : Value) (h0 : Heap) (n0 : Nat) (Z0 : n0 ≤ h0.size) (OLD : Old Z n0 h0) (S_c : Sta Z Z.heap "java/lang/String" "COMPACT_STRINGS" "Z" (.int wc)) (hwc : ¬ wc = 0) (hfm : fm.isRef = true) (S_f : Sta Z Z.heap "jdk/internal/util/Preconditions" "SIOOBE_FORMATTER" "Ljava/util/function/BiFunction;" fm) (S_a : Sta Z Z.heap "java/lang/StringUTF16" "$assertionsDisabled" "Z" (.int (1 : Int32))) (S_h : Sta Z Z.heap "java/lang/StringUTF16" "HI_BYTE_SHIFT" "I" (.int (0 : Int32))) (S_l : Sta Z Z.heap "java/lang/StringUTF16" "LO_BYTE_SHIFT" "I" (.int (8 : Int32))) (hN : N ≤ 100) (hf : f ≤ N) (HS : StrF Z h0 a1 N C) :
    MetFree l (⟨"java/lang/String", "indexOf", "(II)I"⟩ : MethodName) (head1 (Jvm.Cond.code (⟨"java/lang/String", "indexOf", "(II)I"⟩ : MethodName) jdk_42_method_80_code 3 (some .int) :: ws) ({ frames := 7, cells := 0, slots := 0, locals := 150 } : Room)) (fun a U => a = #[(.ref a1), (.int (37 : Int32)), (.int (Int32.ofNat f))] ∧ Z.Warmed39 U.vm ∧ U.heap = h0) (fun _ _ _ _ _ => True) (fun _ U oo U' => ∃ v L, oo = .returned v ∧ Q13c Z a1 N C f wc fm h0 n0 v U'.heap L ∧ FrameEnd U oo U' L ({ frames := 7, cells := 0, slots := 0, locals := 150 } : Room).cells ({ frames := 7, cells := 0, slots := 0, locals := 150 } : Room).slots) := by
  obtain ⟨t1, B, hC, HS | HS⟩ := HS
  · have q := rm13l l Z a0 hw ws a1 t1 N B f wc fm h0 n0 Z0 OLD S_c hwc hfm S_f S_a S_h S_l hN hf HS.1 HS.2.2.1 HS.2.1 HS.2.2.2.1
    have e : ∀ z, Idx N (fun j => (B j) = (37 : Int32)) f z = Idx N (fun j => C j = (37 : Int32)) f z := fun z => propext (own_idx_iff fun j hj => by simp only [(HS.2.2.2.2 j hj).1]; exact own_e37 (hC j hj) (HS.2.2.2.2 j hj).2)
    simp only [Q13l, e] at q
    exact q
  · have q := rm13u l Z a0 hw ws a1 t1 N B f wc fm h0 n0 Z0 OLD S_c hwc hfm S_f S_a S_h S_l hN hf HS.1 HS.2.2.1 HS.2.1 HS.2.2.2.1
    have e : ∀ z, Idx N (fun j => (D16 (B (2 * j)) (B ((2 * j) + 1))) = (37 : Int32)) f z = Idx N (fun j => C j = (37 : Int32)) f z := fun z => propext (own_idx_iff fun j hj => by simp only [(HS.2.2.2.2 j hj).1, (HS.2.2.2.2 j hj).2, show D16 (Ulo (C j)) (Uhi (C j)) = C j from own_u16 (C j) (hC j hj).1 (hC j hj).2])
    simp only [Q13u, e] at q
    exact q
theorem d12_0 : decode jdk_42_method_79_code 0 = .ok (.aload_n 0, 1) := by decide +kernel
theorem d12_1 : decode jdk_42_method_79_code 1 = .ok (.iload_n 1, 1) := by decide +kernel
theorem d12_2 : decode jdk_42_method_79_code 2 = .ok (.iconst 0, 1) := by decide +kernel
theorem d12_3 : decode jdk_42_method_79_code 3 = .ok (.invokevirtual 633, 3) := by decide +kernel
theorem d12_6 : decode jdk_42_method_79_code 6 = .ok (.ireturn, 1) := by decide +kernel
theorem pn_12 : plainName "java/lang/String" = true := by first | (simp [plainName, overriddenIn]; done) | decide +kernel
theorem ef_12 (m : MethodId) (a1 : Addr) : entryFrame m #[(.ref a1), (.int (37 : Int32))] 2 = mkF m 0 #[.val (.ref a1), .val (.int (37 : Int32))] [] := by first | (simp [entryFrame, mkF, argsToLocals, Value.category]; done) | rfl
def Q12 (Z : State) (a1 : Addr) (N : Nat) (C : Nat → Int32) (wc : Int32) (fm : Value) (h0 : Heap) (n0 : Nat) (v : Option Value) (h : Heap) (L : List Loc) : Prop := ∃ z : Int32, v = some (.int z) ∧ Fr n0 L ∧ h = h0 ∧ Idx N (fun j => C j = (37 : Int32)) 0 z
set_option maxRecDepth 65536 in
set_option maxHeartbeats 40000000 in
theorem rm12 (l : Launch) (Z : State) (a0 : Array Value) (hw : ∀ d ∈ tables_1, d.before a0 Z = true) (ws : List Jvm.Cond) (a1 : Addr) (N : Nat) (C : Nat → Int32) (wc : Int32) (fm : Value) (h0 : Heap) (n0 : Nat) (Z0 : n0 ≤ h0.size) (OLD : Old Z n0 h0) (S_c : Sta Z Z.heap "java/lang/String" "COMPACT_STRINGS" "Z" (.int wc)) (hwc : ¬ wc = 0) (hfm : fm.isRef = true) (S_f : Sta Z Z.heap "jdk/internal/util/Preconditions" "SIOOBE_FORMATTER" "Ljava/util/function/BiFunction;" fm) (S_a : Sta Z Z.heap "java/lang/StringUTF16" "$assertionsDisabled" "Z" (.int (1 : Int32))) (S_h : Sta Z Z.heap "java/lang/StringUTF16" "HI_BYTE_SHIFT" "I" (.int (0 : Int32))) (S_l : Sta Z Z.heap "java/lang/StringUTF16" "LO_BYTE_SHIFT" "I" (.int (8 : Int32))) (hN : N ≤ 100) (HS : StrF Z h0 a1 N C) :
    MetFree l (⟨"java/lang/String", "indexOf", "(I)I"⟩ : MethodName) (head1 (Jvm.Cond.code (⟨"java/lang/String", "indexOf", "(I)I"⟩ : MethodName) jdk_42_method_79_code 2 (some .int) :: ws) ({ frames := 8, cells := 0, slots := 0, locals := 164 } : Room)) (fun a U => a = #[(.ref a1), (.int (37 : Int32))] ∧ Z.Warmed39 U.vm ∧ U.heap = h0) (fun _ _ _ _ _ => True) (fun _ U oo U' => ∃ v L, oo = .returned v ∧ Q12 Z a1 N C wc fm h0 n0 v U'.heap L ∧ FrameEnd U oo U' L ({ frames := 8, cells := 0, slots := 0, locals := 164 } : Room).cells ({ frames := 8, cells := 0, slots := 0, locals := 164 } : Room).slots) := by
  refine MetFree.of_bodySF (plainFor_of_name pn_12) hisR ?_
  intro p e s m args below meth c s₁ Bd hml0 hP hK
  obtain ⟨rfl, hZ, hh⟩ := hP
  have hx := Bd.exec
  have hby := Bd.bytes
  have hml : c.maxLocals = 2 := hml0
  have hown : s.vm.findClass "java/lang/String" = some m.cls := findClass_of_methodNamed Bd.named
  have hnm := (name_of_methodNamed Bd.named Bd.method).1
  have X0 : Stand p l e ({ frames := 8, cells := 0, slots := 0, locals := 164 } : Room) s m #[(.ref a1), (.int (37 : Int32))] below meth c s₁ [] 0 0 := Stand.of_body Bd
  have e0 : s₁.heap = h0 := by rw [← hh, Bd.state]; rfl
  have N0 := Fr.nil n0
  have K0 : Keep h0 h0 [] := Keep.refl _ _
  have pre0 : ∀ tg, Steps p.tables e below (s₁.setTop (mkF m 0 #[.val (.ref a1), .val (.int (37 : Int32))] [])) tg → Steps p.tables e below (s₁.setTop (entryFrame m #[(.ref a1), (.int (37 : Int32))] 2)) tg := fun tg k => castTop (ef_12 m a1) k
  have st1 : ∀ tg, Steps p.tables e below (s₁.setTop (mkF m 3 #[.val (.ref a1), .val (.int (37 : Int32))] [(.int (0 : Int32)), (.int (37 : Int32)), (.ref a1)])) tg → Steps p.tables e below (s₁.setTop (mkF m 0 #[.val (.ref a1), .val (.int (37 : Int32))] [])) tg := by
    intro tg kt
    refine XS.aloadN X0.here hx rfl (hb hby d12_0) rfl rfl ?_
    refine XS.iloadN X0.here hx rfl (hb hby d12_1) rfl ?_
    refine XS.iconst X0.here hx rfl (hb hby d12_2) ?_
    exact kt
  obtain ⟨cq2, kq2, q2a, q2b, q2c⟩ := isOf hZ e0 (StrF.exa HS)
  obtain ⟨_, _, ⟨T2, L2, k2, n2⟩, -, X2, ⟨Lc2, hQ2, l2, y2, z2⟩, st2⟩ := X0.virtualBack hx (y := (⟨"java/lang/String", "indexOf", "(II)I"⟩ : MethodName)) (z := (⟨"java/lang/String", "indexOf", "(II)I"⟩ : MethodName)) hown (mvT hZ (hw _ (List.mem_of_getElem? (i := 64) rfl))) (mvT hZ (hw _ (List.mem_of_getElem? (i := 65) rfl))) (notFace_of_selects (args := #[]) (mvT hZ (hw _ (List.mem_of_getElem? (i := 67) rfl)))) (mvT hZ (hw _ (List.mem_of_getElem? (i := 67) rfl))) (mvT hZ (hw _ (List.mem_of_getElem? (i := 66) rfl))) (by decide) (backOf (W := 0) (rm13c l Z a0 hw [] a1 N C 0 wc fm h0 n0 Z0 OLD S_c hwc hfm S_f S_a S_h S_l hN (Nat.zero_le _) HS) hZ (hw _ (List.mem_of_getElem? (i := 68) rfl)) (hw _ (List.mem_of_getElem? (i := 8) rfl)) (by decide) (by decide)) q2a q2c (g := (mkF m 3 #[.val (.ref a1), .val (.int (37 : Int32))] [(.int (0 : Int32)), (.int (37 : Int32)), (.ref a1)])) rfl (by rw [hml]; rfl) (Steps.refl _) (argsL := [(.int (37 : Int32)), (.int (0 : Int32))]) (rest := []) (lenOf pd_9 rfl) rfl (by show 2 * 0 + _ ≤ _; exact Nat.le_of_eq rfl) (hb hby d12_3) (fun _ _ => ⟨rfl, e0, (by decide : 0 + 0 ≤ _), (by decide : 0 + 0 ≤ _)⟩)
  dsimp only [Pt.U, Pt.locs, Pt.cells, Pt.slots] at X2 l2 y2 z2 st2 hQ2
  subst l2 y2 z2
  obtain ⟨z2, rfl, N2q, e2, Pz2⟩ := hQ2
  have N2 := Fr.app N0 N2q
  obtain ⟨fs, hr, hrun, hended, hW, hsame⟩ := X2.leave (v := some (.int z2)) (fun h => by rw [Bd.returns] at h; cases h)
  refine ⟨_, _, pre0 _ ?_, hrun, hended, _, _, rfl, ?_, ⟨_, rfl⟩, hW, hsame.mono (by decide) (by decide)⟩
  · refine st1 _ ?_
    show Steps p.tables e below (s₁.setTop (mkF m 3 #[.val (.ref a1), .val (.int (37 : Int32))] [(.int (0 : Int32)), (.int (37 : Int32)), (.ref a1)])) _
    refine st2.trans ?_
    show Steps p.tables e below (T2.setTop (mkF m 6 #[.val (.ref a1), .val (.int (37 : Int32))] [(.int z2)])) _
    exact retI X2 hx Bd.returns (hb hby d12_6) hr
  · show Q12 Z a1 N C wc fm h0 n0 _ T2.heap _
    rw [e2]
    exact ⟨_, rfl, N2, rfl, Pz2⟩
theorem d25_0 : decode prog_19_method_8_code 0 = .ok (.iconst (-1), 1) := by decide +kernel
theorem d25_1 : decode prog_19_method_8_code 1 = .ok (.istore_n 2, 1) := by decide +kernel
theorem d25_2 : decode prog_19_method_8_code 2 = .ok (.iload_n 1, 1) := by decide +kernel
theorem d25_3 : decode prog_19_method_8_code 3 = .ok (.aload_n 0, 1) := by decide +kernel
theorem d25_4 : decode prog_19_method_8_code 4 = .ok (.invokevirtual 57, 3) := by decide +kernel
theorem d25_7 : decode prog_19_method_8_code 7 = .ok (.if_icmp .ge 72, 3) := by decide +kernel
theorem d25_10 : decode prog_19_method_8_code 10 = .ok (.aload_n 0, 1) := by decide +kernel
theorem d25_11 : decode prog_19_method_8_code 11 = .ok (.iload_n 1, 1) := by decide +kernel
theorem d25_12 : decode prog_19_method_8_code 12 = .ok (.invokevirtual 67, 3) := by decide +kernel
theorem d25_15 : decode prog_19_method_8_code 15 = .ok (.istore_n 3, 1) := by decide +kernel
theorem d25_16 : decode prog_19_method_8_code 16 = .ok (.iload_n 3, 1) := by decide +kernel
theorem d25_17 : decode prog_19_method_8_code 17 = .ok (.bipush 48, 2) := by decide +kernel
theorem d25_19 : decode prog_19_method_8_code 19 = .ok (.if_icmp .lt 17, 3) := by decide +kernel
theorem d25_22 : decode prog_19_method_8_code 22 = .ok (.iload_n 3, 1) := by decide +kernel
theorem d25_23 : decode prog_19_method_8_code 23 = .ok (.bipush 57, 2) := by decide +kernel
theorem d25_25 : decode prog_19_method_8_code 25 = .ok (.if_icmp .gt 11, 3) := by decide +kernel
theorem d25_28 : decode prog_19_method_8_code 28 = .ok (.iload_n 3, 1) := by decide +kernel
theorem d25_29 : decode prog_19_method_8_code 29 = .ok (.bipush 48, 2) := by decide +kernel
theorem d25_31 : decode prog_19_method_8_code 31 = .ok (.isub, 1) := by decide +kernel
theorem d25_32 : decode prog_19_method_8_code 32 = .ok (.istore_n 2, 1) := by decide +kernel
theorem d25_33 : decode prog_19_method_8_code 33 = .ok (.goto 46, 3) := by decide +kernel
theorem d25_36 : decode prog_19_method_8_code 36 = .ok (.iload_n 3, 1) := by decide +kernel
theorem d25_37 : decode prog_19_method_8_code 37 = .ok (.bipush 97, 2) := by decide +kernel
theorem d25_39 : decode prog_19_method_8_code 39 = .ok (.if_icmp .lt 20, 3) := by decide +kernel
theorem d25_42 : decode prog_19_method_8_code 42 = .ok (.iload_n 3, 1) := by decide +kernel
theorem d25_43 : decode prog_19_method_8_code 43 = .ok (.bipush 102, 2) := by decide +kernel
theorem d25_45 : decode prog_19_method_8_code 45 = .ok (.if_icmp .gt 14, 3) := by decide +kernel
theorem d25_48 : decode prog_19_method_8_code 48 = .ok (.iload_n 3, 1) := by decide +kernel
theorem d25_49 : decode prog_19_method_8_code 49 = .ok (.bipush 97, 2) := by decide +kernel
theorem d25_51 : decode prog_19_method_8_code 51 = .ok (.isub, 1) := by decide +kernel
theorem d25_52 : decode prog_19_method_8_code 52 = .ok (.bipush 10, 2) := by decide +kernel
theorem d25_54 : decode prog_19_method_8_code 54 = .ok (.iadd, 1) := by decide +kernel
theorem d25_55 : decode prog_19_method_8_code 55 = .ok (.istore_n 2, 1) := by decide +kernel
theorem d25_56 : decode prog_19_method_8_code 56 = .ok (.goto 23, 3) := by decide +kernel
theorem d25_59 : decode prog_19_method_8_code 59 = .ok (.iload_n 3, 1) := by decide +kernel
theorem d25_60 : decode prog_19_method_8_code 60 = .ok (.bipush 65, 2) := by decide +kernel
theorem d25_62 : decode prog_19_method_8_code 62 = .ok (.if_icmp .lt 17, 3) := by decide +kernel
theorem d25_65 : decode prog_19_method_8_code 65 = .ok (.iload_n 3, 1) := by decide +kernel
theorem d25_66 : decode prog_19_method_8_code 66 = .ok (.bipush 70, 2) := by decide +kernel
theorem d25_68 : decode prog_19_method_8_code 68 = .ok (.if_icmp .gt 11, 3) := by decide +kernel
theorem d25_71 : decode prog_19_method_8_code 71 = .ok (.iload_n 3, 1) := by decide +kernel
theorem d25_72 : decode prog_19_method_8_code 72 = .ok (.bipush 65, 2) := by decide +kernel
theorem d25_74 : decode prog_19_method_8_code 74 = .ok (.isub, 1) := by decide +kernel
theorem d25_75 : decode prog_19_method_8_code 75 = .ok (.bipush 10, 2) := by decide +kernel
theorem d25_77 : decode prog_19_method_8_code 77 = .ok (.iadd, 1) := by decide +kernel
theorem d25_78 : decode prog_19_method_8_code 78 = .ok (.istore_n 2, 1) := by decide +kernel
theorem d25_79 : decode prog_19_method_8_code 79 = .ok (.iload_n 2, 1) := by decide +kernel
theorem d25_80 : decode prog_19_method_8_code 80 = .ok (.ireturn, 1) := by decide +kernel
theorem pn_25 : plainName "com/example/grantline/grantline/PercentEncoding" = true := by first | (simp [plainName, overriddenIn]; done) | decide +kernel
theorem ef_25 (m : MethodId) (a1 : Addr) (y1 : Int32) : entryFrame m #[(.ref a1), (.int y1)] 4 = mkF m 0 #[.val (.ref a1), .val (.int y1), .unset, .unset] [] := by first | (simp [entryFrame, mkF, argsToLocals, Value.category]; done) | rfl
def Q25 (Z : State) (a1 : Addr) (N : Nat) (C : Nat → Int32) (i : Nat) (wc : Int32) (fm : Value) (h0 : Heap) (n0 : Nat) (v : Option Value) (h : Heap) (L : List Loc) : Prop := ∃ z : Int32, v = some (.int z) ∧ Fr n0 L ∧ h = h0 ∧ HxS N C i z
set_option maxRecDepth 65536 in
set_option maxHeartbeats 40000000 in
theorem rm25 (l : Launch) (Z : State) (a0 : Array Value) (hw : ∀ d ∈ tables_1, d.before a0 Z = true) (ws : List Jvm.Cond) (a1 : Addr) (N : Nat) (C : Nat → Int32) (i : Nat) (wc : Int32) (fm : Value) (h0 : Heap) (n0 : Nat) (Z0 : n0 ≤ h0.size) (OLD : Old Z n0 h0) (S_c : Sta Z Z.heap "java/lang/String" "COMPACT_STRINGS" "Z" (.int wc)) (hwc : ¬ wc = 0) (hfm : fm.isRef = true) (S_f : Sta Z Z.heap "jdk/internal/util/Preconditions" "SIOOBE_FORMATTER" "Ljava/util/function/BiFunction;" fm) (S_a : Sta Z Z.heap "java/lang/StringUTF16" "$assertionsDisabled" "Z" (.int (1 : Int32))) (S_h : Sta Z Z.heap "java/lang/StringUTF16" "HI_BYTE_SHIFT" "I" (.int (0 : Int32))) (S_l : Sta Z Z.heap "java/lang/StringUTF16" "LO_BYTE_SHIFT" "I" (.int (8 : Int32))) (hN : N ≤ 100) (hi2 : i ≤ 200) (HS : StrF Z h0 a1 N C) :
    MetFree l (⟨"com/example/grantline/grantline/PercentEncoding", "hexDigit", "(Ljava/lang/String;I)I"⟩ : MethodName) (head1 (Jvm.Cond.code (⟨"com/example/grantline/grantline/PercentEncoding", "hexDigit", "(Ljava/lang/String;I)I"⟩ : MethodName) prog_19_method_8_code 4 (some .int) :: ws) ({ frames := 5, cells := 0, slots := 0, locals := 83 } : Room)) (fun a U => a = #[(.ref a1), (.int (Int32.ofNat i))] ∧ Z.Warmed39 U.vm ∧ U.heap = h0) (fun _ _ _ _ _ => True) (fun _ U oo U' => ∃ v L, oo = .returned v ∧ Q25 Z a1 N C i wc fm h0 n0 v U'.heap L ∧ FrameEnd U oo U' L ({ frames := 5, cells := 0, slots := 0, locals := 83 } : Room).cells ({ frames := 5, cells := 0, slots := 0, locals := 83 } : Room).slots) := by
  refine MetFree.of_bodySF (plainFor_of_name pn_25) hisR ?_
  intro p e s m args below meth c s₁ Bd hml0 hP hK
  obtain ⟨rfl, hZ, hh⟩ := hP
  have hx := Bd.exec
  have hby := Bd.bytes
  have hml : c.maxLocals = 4 := hml0
  have hown : s.vm.findClass "com/example/grantline/grantline/PercentEncoding" = some m.cls := findClass_of_methodNamed Bd.named
  have hnm := (name_of_methodNamed Bd.named Bd.method).1
  have X0 : Stand p l e ({ frames := 5, cells := 0, slots := 0, locals := 83 } : Room) s m #[(.ref a1), (.int (Int32.ofNat i))] below meth c s₁ [] 0 0 := Stand.of_body Bd
  have e0 : s₁.heap = h0 := by rw [← hh, Bd.state]; rfl
  have N0 := Fr.nil n0
  have K0 : Keep h0 h0 [] := Keep.refl _ _
  have pre0 : ∀ tg, Steps p.tables e below (s₁.setTop (mkF m 0 #[.val (.ref a1), .val (.int (Int32.ofNat i)), .unset, .unset] [])) tg → Steps p.tables e below (s₁.setTop (entryFrame m #[(.ref a1), (.int (Int32.ofNat i))] 4)) tg := fun tg k => castTop (ef_25 m a1 (Int32.ofNat i)) k
  have st1 : ∀ tg, Steps p.tables e below (s₁.setTop (mkF m 4 #[.val (.ref a1), .val (.int (Int32.ofNat i)), .val (.int (-1 : Int32)), .unset] [(.ref a1), (.int (Int32.ofNat i))])) tg → Steps p.tables e below (s₁.setTop (mkF m 0 #[.val (.ref a1), .val (.int (Int32.ofNat i)), .unset, .unset] [])) tg := by
    intro tg kt
    refine XS.iconst X0.here hx rfl (hb hby d25_0) ?_
    refine XS.istoreN X0.here hx rfl (hb hby d25_1) rfl (l' := #[.val (.ref a1), .val (.int (Int32.ofNat i)), .val (.int (-1 : Int32)), .unset]) rfl ?_
    refine XS.iloadN X0.here hx rfl (hb hby d25_2) rfl ?_
    refine XS.aloadN X0.here hx rfl (hb hby d25_3) rfl rfl ?_
    exact kt
  obtain ⟨cq2, kq2, q2a, q2b, q2c⟩ := isOf hZ e0 (StrF.exa HS)
  obtain ⟨_, _, ⟨T2, L2, k2, n2⟩, -, X2, ⟨Lc2, hQ2, l2, y2, z2⟩, st2⟩ := X0.virtualBack hx (y := (⟨"java/lang/String", "length", "()I"⟩ : MethodName)) (z := (⟨"java/lang/String", "length", "()I"⟩ : MethodName)) hown (mvT hZ (hw _ (List.mem_of_getElem? (i := 111) rfl))) (mvT hZ (hw _ (List.mem_of_getElem? (i := 70) rfl))) (notFace_of_selects (args := #[]) (mvT hZ (hw _ (List.mem_of_getElem? (i := 72) rfl)))) (mvT hZ (hw _ (List.mem_of_getElem? (i := 72) rfl))) (mvT hZ (hw _ (List.mem_of_getElem? (i := 71) rfl))) (by decide) (backOf (W := 1) (rm14c l Z a0 hw [] a1 N C wc h0 n0 Z0 OLD S_c hwc hN HS) hZ (hw _ (List.mem_of_getElem? (i := 73) rfl)) (hw _ (List.mem_of_getElem? (i := 8) rfl)) (by decide) (by decide)) q2a q2c (g := (mkF m 4 #[.val (.ref a1), .val (.int (Int32.ofNat i)), .val (.int (-1 : Int32)), .unset] [(.ref a1), (.int (Int32.ofNat i))])) rfl (by rw [hml]; rfl) (Steps.refl _) (argsL := []) (rest := [(.int (Int32.ofNat i))]) (lenOf pd_13 rfl) rfl (by show 2 * 0 + _ ≤ _; exact Nat.le_of_eq rfl) (hb hby d25_4) (fun _ _ => ⟨rfl, e0, (by decide : 0 + 0 ≤ _), (by decide : 0 + 0 ≤ _)⟩)
  dsimp only [Pt.U, Pt.locs, Pt.cells, Pt.slots] at X2 l2 y2 z2 st2 hQ2
  subst l2 y2 z2
  obtain ⟨rfl, N2q, e2⟩ := hQ2
  have N2 := Fr.app N0 N2q
  by_cases hc7_3 : (Int32.ofNat i) < (Int32.ofNat N)
  · -- pc 7: (Int32.ofNat i) < (Int32.ofNat N)
    have hc7_3n : i < N := (own_lt (by omega) (by omega)).mp hc7_3
    have st4 : ∀ tg, Steps p.tables e below (T2.setTop (mkF m 12 #[.val (.ref a1), .val (.int (Int32.ofNat i)), .val (.int (-1 : Int32)), .unset] [(.int (Int32.ofNat i)), (.ref a1)])) tg → Steps p.tables e below (T2.setTop (mkF m 7 #[.val (.ref a1), .val (.int (Int32.ofNat i)), .val (.int (-1 : Int32)), .unset] [(.int (Int32.ofNat N)), (.int (Int32.ofNat i))])) tg := by
      intro tg kt
      refine XS.icmpNo X2.here hx rfl (hb hby d25_7) rfl (XT.ii_ge_f hc7_3) ?_
      refine XS.aloadN X2.here hx rfl (hb hby d25_10) rfl rfl ?_
      refine XS.iloadN X2.here hx rfl (hb hby d25_11) rfl ?_
      exact kt
    obtain ⟨cq5, kq5, q5a, q5b, q5c⟩ := isOf hZ e2 (StrF.exa HS)
    obtain ⟨_, _, ⟨T5, L5, k5, n5⟩, -, X5, ⟨Lc5, hQ5, l5, y5, z5⟩, st5⟩ := X2.virtualBack hx (y := (⟨"java/lang/String", "charAt", "(I)C"⟩ : MethodName)) (z := (⟨"java/lang/String", "charAt", "(I)C"⟩ : MethodName)) hown (mvT hZ (hw _ (List.mem_of_getElem? (i := 112) rfl))) (mvT hZ (hw _ (List.mem_of_getElem? (i := 16) rfl))) (notFace_of_selects (args := #[]) (mvT hZ (hw _ (List.mem_of_getElem? (i := 18) rfl)))) (mvT hZ (hw _ (List.mem_of_getElem? (i := 18) rfl))) (mvT hZ (hw _ (List.mem_of_getElem? (i := 17) rfl))) (by decide) (backOf (W := 0) (rm2c l Z a0 hw [] a1 N C i wc fm h0 n0 Z0 OLD S_c hwc hfm S_f S_a S_h S_l hN (by omega) HS) hZ (hw _ (List.mem_of_getElem? (i := 19) rfl)) (hw _ (List.mem_of_getElem? (i := 8) rfl)) (by decide) (by decide)) q5a q5c (g := (mkF m 12 #[.val (.ref a1), .val (.int (Int32.ofNat i)), .val (.int (-1 : Int32)), .unset] [(.int (Int32.ofNat i)), (.ref a1)])) rfl (by rw [hml]; rfl) (Steps.refl _) (argsL := [(.int (Int32.ofNat i))]) (rest := []) (lenOf pd_14 rfl) rfl (by show 2 * 0 + _ ≤ _; exact Nat.le_of_eq rfl) (hb hby d25_12) (fun _ _ => ⟨rfl, e2, (by decide : 0 + 0 ≤ _), (by decide : 0 + 0 ≤ _)⟩)
    dsimp only [Pt.U, Pt.locs, Pt.cells, Pt.slots] at X5 l5 y5 z5 st5 hQ5
    subst l5 y5 z5
    obtain ⟨rfl, N5q, e5⟩ := hQ5
    have N5 := Fr.app N2 N5q
    have st7 : ∀ tg, Steps p.tables e below (T5.setTop (mkF m 19 #[.val (.ref a1), .val (.int (Int32.ofNat i)), .val (.int (-1 : Int32)), .val (.int (C i))] [(.int (48 : Int32)), (.int (C i))])) tg → Steps p.tables e below (T5.setTop (mkF m 15 #[.val (.ref a1), .val (.int (Int32.ofNat i)), .val (.int (-1 : Int32)), .unset] [(.int (C i))])) tg := by
      intro tg kt
      refine XS.istoreN X5.here hx rfl (hb hby d25_15) rfl (l' := #[.val (.ref a1), .val (.int (Int32.ofNat i)), .val (.int (-1 : Int32)), .val (.int (C i))]) rfl ?_
      refine XS.iloadN X5.here hx rfl (hb hby d25_16) rfl ?_
      refine XS.bipush X5.here hx rfl (hb hby d25_17) ?_
      exact kt
    by_cases hc19_6 : (C i) < (48 : Int32)
    · -- pc 19: (C i) < (48 : Int32)
      have st9 : ∀ tg, Steps p.tables e below (T5.setTop (mkF m 39 #[.val (.ref a1), .val (.int (Int32.ofNat i)), .val (.int (-1 : Int32)), .val (.int (C i))] [(.int (97 : Int32)), (.int (C i))])) tg → Steps p.tables e below (T5.setTop (mkF m 19 #[.val (.ref a1), .val (.int (Int32.ofNat i)), .val (.int (-1 : Int32)), .val (.int (C i))] [(.int (48 : Int32)), (.int (C i))])) tg := by
        intro tg kt
        refine XS.icmpYes X5.here hx rfl (pc0 := 19) (pc' := 36) rfl (hb hby d25_19) rfl (XT.ii_lt_t hc19_6) (by decide) (by decide) ?_
        refine XS.iloadN X5.here hx rfl (hb hby d25_36) rfl ?_
        refine XS.bipush X5.here hx rfl (hb hby d25_37) ?_
        exact kt
      by_cases hc39_8 : (C i) < (97 : Int32)
      · -- pc 39: (C i) < (97 : Int32)
        have st11 : ∀ tg, Steps p.tables e below (T5.setTop (mkF m 62 #[.val (.ref a1), .val (.int (Int32.ofNat i)), .val (.int (-1 : Int32)), .val (.int (C i))] [(.int (65 : Int32)), (.int (C i))])) tg → Steps p.tables e below (T5.setTop (mkF m 39 #[.val (.ref a1), .val (.int (Int32.ofNat i)), .val (.int (-1 : Int32)), .val (.int (C i))] [(.int (97 : Int32)), (.int (C i))])) tg := by
          intro tg kt
          refine XS.icmpYes X5.here hx rfl (pc0 := 39) (pc' := 59) rfl (hb hby d25_39) rfl (XT.ii_lt_t hc39_8) (by decide) (by decide) ?_
          refine XS.iloadN X5.here hx rfl (hb hby d25_59) rfl ?_
          refine XS.bipush X5.here hx rfl (hb hby d25_60) ?_
          exact kt
        by_cases hc62_10 : (C i) < (65 : Int32)
        · -- pc 62: (C i) < (65 : Int32)
          have st12 : ∀ tg, Steps p.tables e below (T5.setTop (mkF m 80 #[.val (.ref a1), .val (.int (Int32.ofNat i)), .val (.int (-1 : Int32)), .val (.int (C i))] [(.int (-1 : Int32))])) tg → Steps p.tables e below (T5.setTop (mkF m 62 #[.val (.ref a1), .val (.int (Int32.ofNat i)), .val (.int (-1 : Int32)), .val (.int (C i))] [(.int (65 : Int32)), (.int (C i))])) tg := by
            intro tg kt
            refine XS.icmpYes X5.here hx rfl (pc0 := 62) (pc' := 79) rfl (hb hby d25_62) rfl (XT.ii_lt_t hc62_10) (by decide) (by decide) ?_
            refine XS.iloadN X5.here hx rfl (hb hby d25_79) rfl ?_
            exact kt
          obtain ⟨fs, hr, hrun, hended, hW, hsame⟩ := X5.leave (v := some (.int (-1 : Int32))) (fun h => by rw [Bd.returns] at h; cases h)
          refine ⟨_, _, pre0 _ ?_, hrun, hended, _, _, rfl, ?_, ⟨_, rfl⟩, hW, hsame.mono (by decide) (by decide)⟩
          · refine st1 _ ?_
            show Steps p.tables e below (s₁.setTop (mkF m 4 #[.val (.ref a1), .val (.int (Int32.ofNat i)), .val (.int (-1 : Int32)), .unset] [(.ref a1), (.int (Int32.ofNat i))])) _
            refine st2.trans ?_
            refine st4 _ ?_
            show Steps p.tables e below (T2.setTop (mkF m 12 #[.val (.ref a1), .val (.int (Int32.ofNat i)), .val (.int (-1 : Int32)), .unset] [(.int (Int32.ofNat i)), (.ref a1)])) _
            refine st5.trans ?_
            refine st7 _ ?_
            refine st9 _ ?_
            refine st11 _ ?_
            refine st12 _ ?_
            show Steps p.tables e below (T5.setTop (mkF m 80 #[.val (.ref a1), .val (.int (Int32.ofNat i)), .val (.int (-1 : Int32)), .val (.int (C i))] [(.int (-1 : Int32))])) _
            exact retI X5 hx Bd.returns (hb hby d25_80) hr
          · show Q25 Z a1 N C i wc fm h0 n0 _ T5.heap _
            rw [e5]
            exact ⟨_, rfl, N5, rfl, own_hx_no (own_hex_no (Or.inl hc19_6) (Or.inl hc39_8) (Or.inl hc62_10))⟩
        · -- pc 62: not (C i) < (65 : Int32)
          have st14 : ∀ tg, Steps p.tables e below (T5.setTop (mkF m 68 #[.val (.ref a1), .val (.int (Int32.ofNat i)), .val (.int (-1 : Int32)), .val (.int (C i))] [(.int (70 : Int32)), (.int (C i))])) tg → Steps p.tables e below (T5.setTop (mkF m 62 #[.val (.ref a1), .val (.int (Int32.ofNat i)), .val (.int (-1 : Int32)), .val (.int (C i))] [(.int (65 : Int32)), (.int (C i))])) tg := by
            intro tg kt
            refine XS.icmpNo X5.here hx rfl (hb hby d25_62) rfl (XT.ii_lt_f hc62_10) ?_
            refine XS.iloadN X5.here hx rfl (hb hby d25_65) rfl ?_
            refine XS.bipush X5.here hx rfl (hb hby d25_66) ?_
            exact kt
          by_cases hc68_13 : (70 : Int32) < (C i)
          · -- pc 68: (70 : Int32) < (C i)
            have st15 : ∀ tg, Steps p.tables e below (T5.setTop (mkF m 80 #[.val (.ref a1), .val (.int (Int32.ofNat i)), .val (.int (-1 : Int32)), .val (.int (C i))] [(.int (-1 : Int32))])) tg → Steps p.tables e below (T5.setTop (mkF m 68 #[.val (.ref a1), .val (.int (Int32.ofNat i)), .val (.int (-1 : Int32)), .val (.int (C i))] [(.int (70 : Int32)), (.int (C i))])) tg := by
              intro tg kt
              refine XS.icmpYes X5.here hx rfl (pc0 := 68) (pc' := 79) rfl (hb hby d25_68) rfl (XT.ii_gt_t hc68_13) (by decide) (by decide) ?_
              refine XS.iloadN X5.here hx rfl (hb hby d25_79) rfl ?_
              exact kt
            obtain ⟨fs, hr, hrun, hended, hW, hsame⟩ := X5.leave (v := some (.int (-1 : Int32))) (fun h => by rw [Bd.returns] at h; cases h)
            refine ⟨_, _, pre0 _ ?_, hrun, hended, _, _, rfl, ?_, ⟨_, rfl⟩, hW, hsame.mono (by decide) (by decide)⟩
            · refine st1 _ ?_
              show Steps p.tables e below (s₁.setTop (mkF m 4 #[.val (.ref a1), .val (.int (Int32.ofNat i)), .val (.int (-1 : Int32)), .unset] [(.ref a1), (.int (Int32.ofNat i))])) _
              refine st2.trans ?_
              refine st4 _ ?_
              show Steps p.tables e below (T2.setTop (mkF m 12 #[.val (.ref a1), .val (.int (Int32.ofNat i)), .val (.int (-1 : Int32)), .unset] [(.int (Int32.ofNat i)), (.ref a1)])) _
              refine st5.trans ?_
              refine st7 _ ?_
              refine st9 _ ?_
              refine st11 _ ?_
              refine st14 _ ?_
              refine st15 _ ?_
              show Steps p.tables e below (T5.setTop (mkF m 80 #[.val (.ref a1), .val (.int (Int32.ofNat i)), .val (.int (-1 : Int32)), .val (.int (C i))] [(.int (-1 : Int32))])) _
              exact retI X5 hx Bd.returns (hb hby d25_80) hr
            · show Q25 Z a1 N C i wc fm h0 n0 _ T5.heap _
              rw [e5]
              exact ⟨_, rfl, N5, rfl, own_hx_no (own_hex_no (Or.inl hc19_6) (Or.inl hc39_8) (Or.inr hc68_13))⟩
          · -- pc 68: not (70 : Int32) < (C i)
            have st16 : ∀ tg, Steps p.tables e below (T5.setTop (mkF m 80 #[.val (.ref a1), .val (.int (Int32.ofNat i)), .val (.int (((C i) - (65 : Int32)) + (10 : Int32))), .val (.int (C i))] [(.int (((C i) - (65 : Int32)) + (10 : Int32)))])) tg → Steps p.tables e below (T5.setTop (mkF m 68 #[.val (.ref a1), .val (.int (Int32.ofNat i)), .val (.int (-1 : Int32)), .val (.int (C i))] [(.int (70 : Int32)), (.int (C i))])) tg := by
              intro tg kt
              refine XS.icmpNo X5.here hx rfl (hb hby d25_68) rfl (XT.ii_gt_f hc68_13) ?_
              refine XS.iloadN X5.here hx rfl (hb hby d25_71) rfl ?_
              refine XS.bipush X5.here hx rfl (hb hby d25_72) ?_
              refine XS.isub X5.here hx rfl (hb hby d25_74) rfl ?_
              show Steps p.tables e below (T5.setTop (mkF m 75 #[.val (.ref a1), .val (.int (Int32.ofNat i)), .val (.int (-1 : Int32)), .val (.int (C i))] [(.int ((C i) - (65 : Int32)))])) tg
              refine XS.bipush X5.here hx rfl (hb hby d25_75) ?_
              refine XS.iadd X5.here hx rfl (hb hby d25_77) rfl ?_
              refine XS.istoreN X5.here hx rfl (hb hby d25_78) rfl (l' := #[.val (.ref a1), .val (.int (Int32.ofNat i)), .val (.int (((C i) - (65 : Int32)) + (10 : Int32))), .val (.int (C i))]) rfl ?_
              refine XS.iloadN X5.here hx rfl (hb hby d25_79) rfl ?_
              exact kt
            obtain ⟨fs, hr, hrun, hended, hW, hsame⟩ := X5.leave (v := some (.int (((C i) - (65 : Int32)) + (10 : Int32)))) (fun h => by rw [Bd.returns] at h; cases h)
            refine ⟨_, _, pre0 _ ?_, hrun, hended, _, _, rfl, ?_, ⟨_, rfl⟩, hW, hsame.mono (by decide) (by decide)⟩
            · refine st1 _ ?_
              show Steps p.tables e below (s₁.setTop (mkF m 4 #[.val (.ref a1), .val (.int (Int32.ofNat i)), .val (.int (-1 : Int32)), .unset] [(.ref a1), (.int (Int32.ofNat i))])) _
              refine st2.trans ?_
              refine st4 _ ?_
              show Steps p.tables e below (T2.setTop (mkF m 12 #[.val (.ref a1), .val (.int (Int32.ofNat i)), .val (.int (-1 : Int32)), .unset] [(.int (Int32.ofNat i)), (.ref a1)])) _
              refine st5.trans ?_
              refine st7 _ ?_
              refine st9 _ ?_
              refine st11 _ ?_
              refine st14 _ ?_
              refine st16 _ ?_
              show Steps p.tables e below (T5.setTop (mkF m 80 #[.val (.ref a1), .val (.int (Int32.ofNat i)), .val (.int (((C i) - (65 : Int32)) + (10 : Int32))), .val (.int (C i))] [(.int (((C i) - (65 : Int32)) + (10 : Int32)))])) _
              exact retI X5 hx Bd.returns (hb hby d25_80) hr
            · show Q25 Z a1 N C i wc fm h0 n0 _ T5.heap _
              rw [e5]
              exact ⟨_, rfl, N5, rfl, own_hx_up (by omega) hc62_10 hc68_13⟩
      · -- pc 39: not (C i) < (97 : Int32)
        have st18 : ∀ tg, Steps p.tables e below (T5.setTop (mkF m 45 #[.val (.ref a1), .val (.int (Int32.ofNat i)), .val (.int (-1 : Int32)), .val (.int (C i))] [(.int (102 : Int32)), (.int (C i))])) tg → Steps p.tables e below (T5.setTop (mkF m 39 #[.val (.ref a1), .val (.int (Int32.ofNat i)), .val (.int (-1 : Int32)), .val (.int (C i))] [(.int (97 : Int32)), (.int (C i))])) tg := by
          intro tg kt
          refine XS.icmpNo X5.here hx rfl (hb hby d25_39) rfl (XT.ii_lt_f hc39_8) ?_
          refine XS.iloadN X5.here hx rfl (hb hby d25_42) rfl ?_
          refine XS.bipush X5.here hx rfl (hb hby d25_43) ?_
          exact kt
        by_cases hc45_17 : (102 : Int32) < (C i)
        · -- pc 45: (102 : Int32) < (C i)
          have st20 : ∀ tg, Steps p.tables e below (T5.setTop (mkF m 62 #[.val (.ref a1), .val (.int (Int32.ofNat i)), .val (.int (-1 : Int32)), .val (.int (C i))] [(.int (65 : Int32)), (.int (C i))])) tg → Steps p.tables e below (T5.setTop (mkF m 45 #[.val (.ref a1), .val (.int (Int32.ofNat i)), .val (.int (-1 : Int32)), .val (.int (C i))] [(.int (102 : Int32)), (.int (C i))])) tg := by
            intro tg kt
            refine XS.icmpYes X5.here hx rfl (pc0 := 45) (pc' := 59) rfl (hb hby d25_45) rfl (XT.ii_gt_t hc45_17) (by decide) (by decide) ?_
            refine XS.iloadN X5.here hx rfl (hb hby d25_59) rfl ?_
            refine XS.bipush X5.here hx rfl (hb hby d25_60) ?_
            exact kt
          by_cases hc62_19 : (C i) < (65 : Int32)
          · -- pc 62: (C i) < (65 : Int32)
            have st21 : ∀ tg, Steps p.tables e below (T5.setTop (mkF m 80 #[.val (.ref a1), .val (.int (Int32.ofNat i)), .val (.int (-1 : Int32)), .val (.int (C i))] [(.int (-1 : Int32))])) tg → Steps p.tables e below (T5.setTop (mkF m 62 #[.val (.ref a1), .val (.int (Int32.ofNat i)), .val (.int (-1 : Int32)), .val (.int (C i))] [(.int (65 : Int32)), (.int (C i))])) tg := by
              intro tg kt
              refine XS.icmpYes X5.here hx rfl (pc0 := 62) (pc' := 79) rfl (hb hby d25_62) rfl (XT.ii_lt_t hc62_19) (by decide) (by decide) ?_
              refine XS.iloadN X5.here hx rfl (hb hby d25_79) rfl ?_
              exact kt
            obtain ⟨fs, hr, hrun, hended, hW, hsame⟩ := X5.leave (v := some (.int (-1 : Int32))) (fun h => by rw [Bd.returns] at h; cases h)
            refine ⟨_, _, pre0 _ ?_, hrun, hended, _, _, rfl, ?_, ⟨_, rfl⟩, hW, hsame.mono (by decide) (by decide)⟩
            · refine st1 _ ?_
              show Steps p.tables e below (s₁.setTop (mkF m 4 #[.val (.ref a1), .val (.int (Int32.ofNat i)), .val (.int (-1 : Int32)), .unset] [(.ref a1), (.int (Int32.ofNat i))])) _
              refine st2.trans ?_
              refine st4 _ ?_
              show Steps p.tables e below (T2.setTop (mkF m 12 #[.val (.ref a1), .val (.int (Int32.ofNat i)), .val (.int (-1 : Int32)), .unset] [(.int (Int32.ofNat i)), (.ref a1)])) _
              refine st5.trans ?_
              refine st7 _ ?_
              refine st9 _ ?_
              refine st18 _ ?_
              refine st20 _ ?_
              refine st21 _ ?_
              show Steps p.tables e below (T5.setTop (mkF m 80 #[.val (.ref a1), .val (.int (Int32.ofNat i)), .val (.int (-1 : Int32)), .val (.int (C i))] [(.int (-1 : Int32))])) _
              exact retI X5 hx Bd.returns (hb hby d25_80) hr
            · show Q25 Z a1 N C i wc fm h0 n0 _ T5.heap _
              rw [e5]
              exact ⟨_, rfl, N5, rfl, own_hx_no (own_hex_no (Or.inl hc19_6) (Or.inr hc45_17) (Or.inl hc62_19))⟩
          · -- pc 62: not (C i) < (65 : Int32)
            have st23 : ∀ tg, Steps p.tables e below (T5.setTop (mkF m 68 #[.val (.ref a1), .val (.int (Int32.ofNat i)), .val (.int (-1 : Int32)), .val (.int (C i))] [(.int (70 : Int32)), (.int (C i))])) tg → Steps p.tables e below (T5.setTop (mkF m 62 #[.val (.ref a1), .val (.int (Int32.ofNat i)), .val (.int (-1 : Int32)), .val (.int (C i))] [(.int (65 : Int32)), (.int (C i))])) tg := by
              intro tg kt
              refine XS.icmpNo X5.here hx rfl (hb hby d25_62) rfl (XT.ii_lt_f hc62_19) ?_
              refine XS.iloadN X5.here hx rfl (hb hby d25_65) rfl ?_
              refine XS.bipush X5.here hx rfl (hb hby d25_66) ?_
              exact kt
            by_cases hc68_22 : (70 : Int32) < (C i)
            · -- pc 68: (70 : Int32) < (C i)
              have st24 : ∀ tg, Steps p.tables e below (T5.setTop (mkF m 80 #[.val (.ref a1), .val (.int (Int32.ofNat i)), .val (.int (-1 : Int32)), .val (.int (C i))] [(.int (-1 : Int32))])) tg → Steps p.tables e below (T5.setTop (mkF m 68 #[.val (.ref a1), .val (.int (Int32.ofNat i)), .val (.int (-1 : Int32)), .val (.int (C i))] [(.int (70 : Int32)), (.int (C i))])) tg := by
                intro tg kt
                refine XS.icmpYes X5.here hx rfl (pc0 := 68) (pc' := 79) rfl (hb hby d25_68) rfl (XT.ii_gt_t hc68_22) (by decide) (by decide) ?_
                refine XS.iloadN X5.here hx rfl (hb hby d25_79) rfl ?_
                exact kt
              obtain ⟨fs, hr, hrun, hended, hW, hsame⟩ := X5.leave (v := some (.int (-1 : Int32))) (fun h => by rw [Bd.returns] at h; cases h)
              refine ⟨_, _, pre0 _ ?_, hrun, hended, _, _, rfl, ?_, ⟨_, rfl⟩, hW, hsame.mono (by decide) (by decide)⟩
              · refine st1 _ ?_
                show Steps p.tables e below (s₁.setTop (mkF m 4 #[.val (.ref a1), .val (.int (Int32.ofNat i)), .val (.int (-1 : Int32)), .unset] [(.ref a1), (.int (Int32.ofNat i))])) _
                refine st2.trans ?_
                refine st4 _ ?_
                show Steps p.tables e below (T2.setTop (mkF m 12 #[.val (.ref a1), .val (.int (Int32.ofNat i)), .val (.int (-1 : Int32)), .unset] [(.int (Int32.ofNat i)), (.ref a1)])) _
                refine st5.trans ?_
                refine st7 _ ?_
                refine st9 _ ?_
                refine st18 _ ?_
                refine st20 _ ?_
                refine st23 _ ?_
                refine st24 _ ?_
                show Steps p.tables e below (T5.setTop (mkF m 80 #[.val (.ref a1), .val (.int (Int32.ofNat i)), .val (.int (-1 : Int32)), .val (.int (C i))] [(.int (-1 : Int32))])) _
                exact retI X5 hx Bd.returns (hb hby d25_80) hr
              · show Q25 Z a1 N C i wc fm h0 n0 _ T5.heap _
                rw [e5]
                exact ⟨_, rfl, N5, rfl, own_hx_no (own_hex_no (Or.inl hc19_6) (Or.inr hc45_17) (Or.inr hc68_22))⟩
            · -- pc 68: not (70 : Int32) < (C i)
              have st25 : ∀ tg, Steps p.tables e below (T5.setTop (mkF m 80 #[.val (.ref a1), .val (.int (Int32.ofNat i)), .val (.int (((C i) - (65 : Int32)) + (10 : Int32))), .val (.int (C i))] [(.int (((C i) - (65 : Int32)) + (10 : Int32)))])) tg → Steps p.tables e below (T5.setTop (mkF m 68 #[.val (.ref a1), .val (.int (Int32.ofNat i)), .val (.int (-1 : Int32)), .val (.int (C i))] [(.int (70 : Int32)), (.int (C i))])) tg := by
                intro tg kt
                refine XS.icmpNo X5.here hx rfl (hb hby d25_68) rfl (XT.ii_gt_f hc68_22) ?_
                refine XS.iloadN X5.here hx rfl (hb hby d25_71) rfl ?_
                refine XS.bipush X5.here hx rfl (hb hby d25_72) ?_
                refine XS.isub X5.here hx rfl (hb hby d25_74) rfl ?_
                show Steps p.tables e below (T5.setTop (mkF m 75 #[.val (.ref a1), .val (.int (Int32.ofNat i)), .val (.int (-1 : Int32)), .val (.int (C i))] [(.int ((C i) - (65 : Int32)))])) tg
                refine XS.bipush X5.here hx rfl (hb hby d25_75) ?_
                refine XS.iadd X5.here hx rfl (hb hby d25_77) rfl ?_
                refine XS.istoreN X5.here hx rfl (hb hby d25_78) rfl (l' := #[.val (.ref a1), .val (.int (Int32.ofNat i)), .val (.int (((C i) - (65 : Int32)) + (10 : Int32))), .val (.int (C i))]) rfl ?_
                refine XS.iloadN X5.here hx rfl (hb hby d25_79) rfl ?_
                exact kt
              obtain ⟨fs, hr, hrun, hended, hW, hsame⟩ := X5.leave (v := some (.int (((C i) - (65 : Int32)) + (10 : Int32)))) (fun h => by rw [Bd.returns] at h; cases h)
              refine ⟨_, _, pre0 _ ?_, hrun, hended, _, _, rfl, ?_, ⟨_, rfl⟩, hW, hsame.mono (by decide) (by decide)⟩
              · refine st1 _ ?_
                show Steps p.tables e below (s₁.setTop (mkF m 4 #[.val (.ref a1), .val (.int (Int32.ofNat i)), .val (.int (-1 : Int32)), .unset] [(.ref a1), (.int (Int32.ofNat i))])) _
                refine st2.trans ?_
                refine st4 _ ?_
                show Steps p.tables e below (T2.setTop (mkF m 12 #[.val (.ref a1), .val (.int (Int32.ofNat i)), .val (.int (-1 : Int32)), .unset] [(.int (Int32.ofNat i)), (.ref a1)])) _
                refine st5.trans ?_
                refine st7 _ ?_
                refine st9 _ ?_
                refine st18 _ ?_
                refine st20 _ ?_
                refine st23 _ ?_
                refine st25 _ ?_
                show Steps p.tables e below (T5.setTop (mkF m 80 #[.val (.ref a1), .val (.int (Int32.ofNat i)), .val (.int (((C i) - (65 : Int32)) + (10 : Int32))), .val (.int (C i))] [(.int (((C i) - (65 : Int32)) + (10 : Int32)))])) _
                exact retI X5 hx Bd.returns (hb hby d25_80) hr
              · show Q25 Z a1 N C i wc fm h0 n0 _ T5.heap _
                rw [e5]
                exact ⟨_, rfl, N5, rfl, own_hx_up (by omega) hc62_19 hc68_22⟩
        · -- pc 45: not (102 : Int32) < (C i)
          have st26 : ∀ tg, Steps p.tables e below (T5.setTop (mkF m 80 #[.val (.ref a1), .val (.int (Int32.ofNat i)), .val (.int (((C i) - (97 : Int32)) + (10 : Int32))), .val (.int (C i))] [(.int (((C i) - (97 : Int32)) + (10 : Int32)))])) tg → Steps p.tables e below (T5.setTop (mkF m 45 #[.val (.ref a1), .val (.int (Int32.ofNat i)), .val (.int (-1 : Int32)), .val (.int (C i))] [(.int (102 : Int32)), (.int (C i))])) tg := by
            intro tg kt
            refine XS.icmpNo X5.here hx rfl (hb hby d25_45) rfl (XT.ii_gt_f hc45_17) ?_
            refine XS.iloadN X5.here hx rfl (hb hby d25_48) rfl ?_
            refine XS.bipush X5.here hx rfl (hb hby d25_49) ?_
            refine XS.isub X5.here hx rfl (hb hby d25_51) rfl ?_
            show Steps p.tables e below (T5.setTop (mkF m 52 #[.val (.ref a1), .val (.int (Int32.ofNat i)), .val (.int (-1 : Int32)), .val (.int (C i))] [(.int ((C i) - (97 : Int32)))])) tg
            refine XS.bipush X5.here hx rfl (hb hby d25_52) ?_
            refine XS.iadd X5.here hx rfl (hb hby d25_54) rfl ?_
            refine XS.istoreN X5.here hx rfl (hb hby d25_55) rfl (l' := #[.val (.ref a1), .val (.int (Int32.ofNat i)), .val (.int (((C i) - (97 : Int32)) + (10 : Int32))), .val (.int (C i))]) rfl ?_
            refine XS.goto X5.here hx rfl (pc0 := 56) (pc' := 79) rfl (hb hby d25_56) (by decide) (by decide) ?_
            show Steps p.tables e below (T5.setTop (mkF m 79 #[.val (.ref a1), .val (.int (Int32.ofNat i)), .val (.int (((C i) - (97 : Int32)) + (10 : Int32))), .val (.int (C i))] [])) tg
            refine XS.iloadN X5.here hx rfl (hb hby d25_79) rfl ?_
            exact kt
          obtain ⟨fs, hr, hrun, hended, hW, hsame⟩ := X5.leave (v := some (.int (((C i) - (97 : Int32)) + (10 : Int32)))) (fun h => by rw [Bd.returns] at h; cases h)
          refine ⟨_, _, pre0 _ ?_, hrun, hended, _, _, rfl, ?_, ⟨_, rfl⟩, hW, hsame.mono (by decide) (by decide)⟩
          · refine st1 _ ?_
            show Steps p.tables e below (s₁.setTop (mkF m 4 #[.val (.ref a1), .val (.int (Int32.ofNat i)), .val (.int (-1 : Int32)), .unset] [(.ref a1), (.int (Int32.ofNat i))])) _
            refine st2.trans ?_
            refine st4 _ ?_
            show Steps p.tables e below (T2.setTop (mkF m 12 #[.val (.ref a1), .val (.int (Int32.ofNat i)), .val (.int (-1 : Int32)), .unset] [(.int (Int32.ofNat i)), (.ref a1)])) _
            refine st5.trans ?_
            refine st7 _ ?_
            refine st9 _ ?_
            refine st18 _ ?_
            refine st26 _ ?_
            show Steps p.tables e below (T5.setTop (mkF m 80 #[.val (.ref a1), .val (.int (Int32.ofNat i)), .val (.int (((C i) - (97 : Int32)) + (10 : Int32))), .val (.int (C i))] [(.int (((C i) - (97 : Int32)) + (10 : Int32)))])) _
            exact retI X5 hx Bd.returns (hb hby d25_80) hr
          · show Q25 Z a1 N C i wc fm h0 n0 _ T5.heap _
            rw [e5]
            exact ⟨_, rfl, N5, rfl, own_hx_low (by omega) hc39_8 hc45_17⟩
    · -- pc 19: not (C i) < (48 : Int32)
      have st28 : ∀ tg, Steps p.tables e below (T5.setTop (mkF m 25 #[.val (.ref a1), .val (.int (Int32.ofNat i)), .val (.int (-1 : Int32)), .val (.int (C i))] [(.int (57 : Int32)), (.int (C i))])) tg → Steps p.tables e below (T5.setTop (mkF m 19 #[.val (.ref a1), .val (.int (Int32.ofNat i)), .val (.int (-1 : Int32)), .val (.int (C i))] [(.int (48 : Int32)), (.int (C i))])) tg := by
        intro tg kt
        refine XS.icmpNo X5.here hx rfl (hb hby d25_19) rfl (XT.ii_lt_f hc19_6) ?_
        refine XS.iloadN X5.here hx rfl (hb hby d25_22) rfl ?_
        refine XS.bipush X5.here hx rfl (hb hby d25_23) ?_
        exact kt
      by_cases hc25_27 : (57 : Int32) < (C i)
      · -- pc 25: (57 : Int32) < (C i)
        have st30 : ∀ tg, Steps p.tables e below (T5.setTop (mkF m 39 #[.val (.ref a1), .val (.int (Int32.ofNat i)), .val (.int (-1 : Int32)), .val (.int (C i))] [(.int (97 : Int32)), (.int (C i))])) tg → Steps p.tables e below (T5.setTop (mkF m 25 #[.val (.ref a1), .val (.int (Int32.ofNat i)), .val (.int (-1 : Int32)), .val (.int (C i))] [(.int (57 : Int32)), (.int (C i))])) tg := by
          intro tg kt
          refine XS.icmpYes X5.here hx rfl (pc0 := 25) (pc' := 36) rfl (hb hby d25_25) rfl (XT.ii_gt_t hc25_27) (by decide) (by decide) ?_
          refine XS.iloadN X5.here hx rfl (hb hby d25_36) rfl ?_
          refine XS.bipush X5.here hx rfl (hb hby d25_37) ?_
          exact kt
        by_cases hc39_29 : (C i) < (97 : Int32)
        · -- pc 39: (C i) < (97 : Int32)
          have st32 : ∀ tg, Steps p.tables e below (T5.setTop (mkF m 62 #[.val (.ref a1), .val (.int (Int32.ofNat i)), .val (.int (-1 : Int32)), .val (.int (C i))] [(.int (65 : Int32)), (.int (C i))])) tg → Steps p.tables e below (T5.setTop (mkF m 39 #[.val (.ref a1), .val (.int (Int32.ofNat i)), .val (.int (-1 : Int32)), .val (.int (C i))] [(.int (97 : Int32)), (.int (C i))])) tg := by
            intro tg kt
            refine XS.icmpYes X5.here hx rfl (pc0 := 39) (pc' := 59) rfl (hb hby d25_39) rfl (XT.ii_lt_t hc39_29) (by decide) (by decide) ?_
            refine XS.iloadN X5.here hx rfl (hb hby d25_59) rfl ?_
            refine XS.bipush X5.here hx rfl (hb hby d25_60) ?_
            exact kt
          by_cases hc62_31 : (C i) < (65 : Int32)
          · -- pc 62: (C i) < (65 : Int32)
            have st33 : ∀ tg, Steps p.tables e below (T5.setTop (mkF m 80 #[.val (.ref a1), .val (.int (Int32.ofNat i)), .val (.int (-1 : Int32)), .val (.int (C i))] [(.int (-1 : Int32))])) tg → Steps p.tables e below (T5.setTop (mkF m 62 #[.val (.ref a1), .val (.int (Int32.ofNat i)), .val (.int (-1 : Int32)), .val (.int (C i))] [(.int (65 : Int32)), (.int (C i))])) tg := by
              intro tg kt
              refine XS.icmpYes X5.here hx rfl (pc0 := 62) (pc' := 79) rfl (hb hby d25_62) rfl (XT.ii_lt_t hc62_31) (by decide) (by decide) ?_
              refine XS.iloadN X5.here hx rfl (hb hby d25_79) rfl ?_
              exact kt
            obtain ⟨fs, hr, hrun, hended, hW, hsame⟩ := X5.leave (v := some (.int (-1 : Int32))) (fun h => by rw [Bd.returns] at h; cases h)
            refine ⟨_, _, pre0 _ ?_, hrun, hended, _, _, rfl, ?_, ⟨_, rfl⟩, hW, hsame.mono (by decide) (by decide)⟩
            · refine st1 _ ?_
              show Steps p.tables e below (s₁.setTop (mkF m 4 #[.val (.ref a1), .val (.int (Int32.ofNat i)), .val (.int (-1 : Int32)), .unset] [(.ref a1), (.int (Int32.ofNat i))])) _
              refine st2.trans ?_
              refine st4 _ ?_
              show Steps p.tables e below (T2.setTop (mkF m 12 #[.val (.ref a1), .val (.int (Int32.ofNat i)), .val (.int (-1 : Int32)), .unset] [(.int (Int32.ofNat i)), (.ref a1)])) _
              refine st5.trans ?_
              refine st7 _ ?_
              refine st28 _ ?_
              refine st30 _ ?_
              refine st32 _ ?_
              refine st33 _ ?_
              show Steps p.tables e below (T5.setTop (mkF m 80 #[.val (.ref a1), .val (.int (Int32.ofNat i)), .val (.int (-1 : Int32)), .val (.int (C i))] [(.int (-1 : Int32))])) _
              exact retI X5 hx Bd.returns (hb hby d25_80) hr
            · show Q25 Z a1 N C i wc fm h0 n0 _ T5.heap _
              rw [e5]
              exact ⟨_, rfl, N5, rfl, own_hx_no (own_hex_no (Or.inr hc25_27) (Or.inl hc39_29) (Or.inl hc62_31))⟩
          · -- pc 62: not (C i) < (65 : Int32)
            have st35 : ∀ tg, Steps p.tables e below (T5.setTop (mkF m 68 #[.val (.ref a1), .val (.int (Int32.ofNat i)), .val (.int (-1 : Int32)), .val (.int (C i))] [(.int (70 : Int32)), (.int (C i))])) tg → Steps p.tables e below (T5.setTop (mkF m 62 #[.val (.ref a1), .val (.int (Int32.ofNat i)), .val (.int (-1 : Int32)), .val (.int (C i))] [(.int (65 : Int32)), (.int (C i))])) tg := by
              intro tg kt
              refine XS.icmpNo X5.here hx rfl (hb hby d25_62) rfl (XT.ii_lt_f hc62_31) ?_
              refine XS.iloadN X5.here hx rfl (hb hby d25_65) rfl ?_
              refine XS.bipush X5.here hx rfl (hb hby d25_66) ?_
              exact kt
            by_cases hc68_34 : (70 : Int32) < (C i)
            · -- pc 68: (70 : Int32) < (C i)
              have st36 : ∀ tg, Steps p.tables e below (T5.setTop (mkF m 80 #[.val (.ref a1), .val (.int (Int32.ofNat i)), .val (.int (-1 : Int32)), .val (.int (C i))] [(.int (-1 : Int32))])) tg → Steps p.tables e below (T5.setTop (mkF m 68 #[.val (.ref a1), .val (.int (Int32.ofNat i)), .val (.int (-1 : Int32)), .val (.int (C i))] [(.int (70 : Int32)), (.int (C i))])) tg := by
                intro tg kt
                refine XS.icmpYes X5.here hx rfl (pc0 := 68) (pc' := 79) rfl (hb hby d25_68) rfl (XT.ii_gt_t hc68_34) (by decide) (by decide) ?_
                refine XS.iloadN X5.here hx rfl (hb hby d25_79) rfl ?_
                exact kt
              obtain ⟨fs, hr, hrun, hended, hW, hsame⟩ := X5.leave (v := some (.int (-1 : Int32))) (fun h => by rw [Bd.returns] at h; cases h)
              refine ⟨_, _, pre0 _ ?_, hrun, hended, _, _, rfl, ?_, ⟨_, rfl⟩, hW, hsame.mono (by decide) (by decide)⟩
              · refine st1 _ ?_
                show Steps p.tables e below (s₁.setTop (mkF m 4 #[.val (.ref a1), .val (.int (Int32.ofNat i)), .val (.int (-1 : Int32)), .unset] [(.ref a1), (.int (Int32.ofNat i))])) _
                refine st2.trans ?_
                refine st4 _ ?_
                show Steps p.tables e below (T2.setTop (mkF m 12 #[.val (.ref a1), .val (.int (Int32.ofNat i)), .val (.int (-1 : Int32)), .unset] [(.int (Int32.ofNat i)), (.ref a1)])) _
                refine st5.trans ?_
                refine st7 _ ?_
                refine st28 _ ?_
                refine st30 _ ?_
                refine st32 _ ?_
                refine st35 _ ?_
                refine st36 _ ?_
                show Steps p.tables e below (T5.setTop (mkF m 80 #[.val (.ref a1), .val (.int (Int32.ofNat i)), .val (.int (-1 : Int32)), .val (.int (C i))] [(.int (-1 : Int32))])) _
                exact retI X5 hx Bd.returns (hb hby d25_80) hr
              · show Q25 Z a1 N C i wc fm h0 n0 _ T5.heap _
                rw [e5]
                exact ⟨_, rfl, N5, rfl, own_hx_no (own_hex_no (Or.inr hc25_27) (Or.inl hc39_29) (Or.inr hc68_34))⟩
            · -- pc 68: not (70 : Int32) < (C i)
              have st37 : ∀ tg, Steps p.tables e below (T5.setTop (mkF m 80 #[.val (.ref a1), .val (.int (Int32.ofNat i)), .val (.int (((C i) - (65 : Int32)) + (10 : Int32))), .val (.int (C i))] [(.int (((C i) - (65 : Int32)) + (10 : Int32)))])) tg → Steps p.tables e below (T5.setTop (mkF m 68 #[.val (.ref a1), .val (.int (Int32.ofNat i)), .val (.int (-1 : Int32)), .val (.int (C i))] [(.int (70 : Int32)), (.int (C i))])) tg := by
                intro tg kt
                refine XS.icmpNo X5.here hx rfl (hb hby d25_68) rfl (XT.ii_gt_f hc68_34) ?_
                refine XS.iloadN X5.here hx rfl (hb hby d25_71) rfl ?_
                refine XS.bipush X5.here hx rfl (hb hby d25_72) ?_
                refine XS.isub X5.here hx rfl (hb hby d25_74) rfl ?_
                show Steps p.tables e below (T5.setTop (mkF m 75 #[.val (.ref a1), .val (.int (Int32.ofNat i)), .val (.int (-1 : Int32)), .val (.int (C i))] [(.int ((C i) - (65 : Int32)))])) tg
                refine XS.bipush X5.here hx rfl (hb hby d25_75) ?_
                refine XS.iadd X5.here hx rfl (hb hby d25_77) rfl ?_
                refine XS.istoreN X5.here hx rfl (hb hby d25_78) rfl (l' := #[.val (.ref a1), .val (.int (Int32.ofNat i)), .val (.int (((C i) - (65 : Int32)) + (10 : Int32))), .val (.int (C i))]) rfl ?_
                refine XS.iloadN X5.here hx rfl (hb hby d25_79) rfl ?_
                exact kt
              obtain ⟨fs, hr, hrun, hended, hW, hsame⟩ := X5.leave (v := some (.int (((C i) - (65 : Int32)) + (10 : Int32)))) (fun h => by rw [Bd.returns] at h; cases h)
              refine ⟨_, _, pre0 _ ?_, hrun, hended, _, _, rfl, ?_, ⟨_, rfl⟩, hW, hsame.mono (by decide) (by decide)⟩
              · refine st1 _ ?_
                show Steps p.tables e below (s₁.setTop (mkF m 4 #[.val (.ref a1), .val (.int (Int32.ofNat i)), .val (.int (-1 : Int32)), .unset] [(.ref a1), (.int (Int32.ofNat i))])) _
                refine st2.trans ?_
                refine st4 _ ?_
                show Steps p.tables e below (T2.setTop (mkF m 12 #[.val (.ref a1), .val (.int (Int32.ofNat i)), .val (.int (-1 : Int32)), .unset] [(.int (Int32.ofNat i)), (.ref a1)])) _
                refine st5.trans ?_
                refine st7 _ ?_
                refine st28 _ ?_
                refine st30 _ ?_
                refine st32 _ ?_
                refine st35 _ ?_
                refine st37 _ ?_
                show Steps p.tables e below (T5.setTop (mkF m 80 #[.val (.ref a1), .val (.int (Int32.ofNat i)), .val (.int (((C i) - (65 : Int32)) + (10 : Int32))), .val (.int (C i))] [(.int (((C i) - (65 : Int32)) + (10 : Int32)))])) _
                exact retI X5 hx Bd.returns (hb hby d25_80) hr
              · show Q25 Z a1 N C i wc fm h0 n0 _ T5.heap _
                rw [e5]
                exact ⟨_, rfl, N5, rfl, own_hx_up (by omega) hc62_31 hc68_34⟩
        · -- pc 39: not (C i) < (97 : Int32)
          have st39 : ∀ tg, Steps p.tables e below (T5.setTop (mkF m 45 #[.val (.ref a1), .val (.int (Int32.ofNat i)), .val (.int (-1 : Int32)), .val (.int (C i))] [(.int (102 : Int32)), (.int (C i))])) tg → Steps p.tables e below (T5.setTop (mkF m 39 #[.val (.ref a1), .val (.int (Int32.ofNat i)), .val (.int (-1 : Int32)), .val (.int (C i))] [(.int (97 : Int32)), (.int (C i))])) tg := by
            intro tg kt
            refine XS.icmpNo X5.here hx rfl (hb hby d25_39) rfl (XT.ii_lt_f hc39_29) ?_
            refine XS.iloadN X5.here hx rfl (hb hby d25_42) rfl ?_
            refine XS.bipush X5.here hx rfl (hb hby d25_43) ?_
            exact kt
          by_cases hc45_38 : (102 : Int32) < (C i)
          · -- pc 45: (102 : Int32) < (C i)
            have st41 : ∀ tg, Steps p.tables e below (T5.setTop (mkF m 62 #[.val (.ref a1), .val (.int (Int32.ofNat i)), .val (.int (-1 : Int32)), .val (.int (C i))] [(.int (65 : Int32)), (.int (C i))])) tg → Steps p.tables e below (T5.setTop (mkF m 45 #[.val (.ref a1), .val (.int (Int32.ofNat i)), .val (.int (-1 : Int32)), .val (.int (C i))] [(.int (102 : Int32)), (.int (C i))])) tg := by
              intro tg kt
              refine XS.icmpYes X5.here hx rfl (pc0 := 45) (pc' := 59) rfl (hb hby d25_45) rfl (XT.ii_gt_t hc45_38) (by decide) (by decide) ?_
              refine XS.iloadN X5.here hx rfl (hb hby d25_59) rfl ?_
              refine XS.bipush X5.here hx rfl (hb hby d25_60) ?_
              exact kt
            by_cases hc62_40 : (C i) < (65 : Int32)
            · -- pc 62: (C i) < (65 : Int32)
              have st42 : ∀ tg, Steps p.tables e below (T5.setTop (mkF m 80 #[.val (.ref a1), .val (.int (Int32.ofNat i)), .val (.int (-1 : Int32)), .val (.int (C i))] [(.int (-1 : Int32))])) tg → Steps p.tables e below (T5.setTop (mkF m 62 #[.val (.ref a1), .val (.int (Int32.ofNat i)), .val (.int (-1 : Int32)), .val (.int (C i))] [(.int (65 : Int32)), (.int (C i))])) tg := by
                intro tg kt
                refine XS.icmpYes X5.here hx rfl (pc0 := 62) (pc' := 79) rfl (hb hby d25_62) rfl (XT.ii_lt_t hc62_40) (by decide) (by decide) ?_
                refine XS.iloadN X5.here hx rfl (hb hby d25_79) rfl ?_
                exact kt
              obtain ⟨fs, hr, hrun, hended, hW, hsame⟩ := X5.leave (v := some (.int (-1 : Int32))) (fun h => by rw [Bd.returns] at h; cases h)
              refine ⟨_, _, pre0 _ ?_, hrun, hended, _, _, rfl, ?_, ⟨_, rfl⟩, hW, hsame.mono (by decide) (by decide)⟩
              · refine st1 _ ?_
                show Steps p.tables e below (s₁.setTop (mkF m 4 #[.val (.ref a1), .val (.int (Int32.ofNat i)), .val (.int (-1 : Int32)), .unset] [(.ref a1), (.int (Int32.ofNat i))])) _
                refine st2.trans ?_
                refine st4 _ ?_
                show Steps p.tables e below (T2.setTop (mkF m 12 #[.val (.ref a1), .val (.int (Int32.ofNat i)), .val (.int (-1 : Int32)), .unset] [(.int (Int32.ofNat i)), (.ref a1)])) _
                refine st5.trans ?_
                refine st7 _ ?_
                refine st28 _ ?_
                refine st30 _ ?_
                refine st39 _ ?_
                refine st41 _ ?_
                refine st42 _ ?_
                show Steps p.tables e below (T5.setTop (mkF m 80 #[.val (.ref a1), .val (.int (Int32.ofNat i)), .val (.int (-1 : Int32)), .val (.int (C i))] [(.int (-1 : Int32))])) _
                exact retI X5 hx Bd.returns (hb hby d25_80) hr
              · show Q25 Z a1 N C i wc fm h0 n0 _ T5.heap _
                rw [e5]
                exact ⟨_, rfl, N5, rfl, own_hx_no (own_hex_no (Or.inr hc25_27) (Or.inr hc45_38) (Or.inl hc62_40))⟩
            · -- pc 62: not (C i) < (65 : Int32)
              have st44 : ∀ tg, Steps p.tables e below (T5.setTop (mkF m 68 #[.val (.ref a1), .val (.int (Int32.ofNat i)), .val (.int (-1 : Int32)), .val (.int (C i))] [(.int (70 : Int32)), (.int (C i))])) tg → Steps p.tables e below (T5.setTop (mkF m 62 #[.val (.ref a1), .val (.int (Int32.ofNat i)), .val (.int (-1 : Int32)), .val (.int (C i))] [(.int (65 : Int32)), (.int (C i))])) tg := by
                intro tg kt
                refine XS.icmpNo X5.here hx rfl (hb hby d25_62) rfl (XT.ii_lt_f hc62_40) ?_
                refine XS.iloadN X5.here hx rfl (hb hby d25_65) rfl ?_
                refine XS.bipush X5.here hx rfl (hb hby d25_66) ?_
                exact kt
              by_cases hc68_43 : (70 : Int32) < (C i)
              · -- pc 68: (70 : Int32) < (C i)
                have st45 : ∀ tg, Steps p.tables e below (T5.setTop (mkF m 80 #[.val (.ref a1), .val (.int (Int32.ofNat i)), .val (.int (-1 : Int32)), .val (.int (C i))] [(.int (-1 : Int32))])) tg → Steps p.tables e below (T5.setTop (mkF m 68 #[.val (.ref a1), .val (.int (Int32.ofNat i)), .val (.int (-1 : Int32)), .val (.int (C i))] [(.int (70 : Int32)), (.int (C i))])) tg := by
                  intro tg kt
                  refine XS.icmpYes X5.here hx rfl (pc0 := 68) (pc' := 79) rfl (hb hby d25_68) rfl (XT.ii_gt_t hc68_43) (by decide) (by decide) ?_
                  refine XS.iloadN X5.here hx rfl (hb hby d25_79) rfl ?_
                  exact kt
                obtain ⟨fs, hr, hrun, hended, hW, hsame⟩ := X5.leave (v := some (.int (-1 : Int32))) (fun h => by rw [Bd.returns] at h; cases h)
                refine ⟨_, _, pre0 _ ?_, hrun, hended, _, _, rfl, ?_, ⟨_, rfl⟩, hW, hsame.mono (by decide) (by decide)⟩
                · refine st1 _ ?_
                  show Steps p.tables e below (s₁.setTop (mkF m 4 #[.val (.ref a1), .val (.int (Int32.ofNat i)), .val (.int (-1 : Int32)), .unset] [(.ref a1), (.int (Int32.ofNat i))])) _
                  refine st2.trans ?_
                  refine st4 _ ?_
                  show Steps p.tables e below (T2.setTop (mkF m 12 #[.val (.ref a1), .val (.int (Int32.ofNat i)), .val (.int (-1 : Int32)), .unset] [(.int (Int32.ofNat i)), (.ref a1)])) _
                  refine st5.trans ?_
                  refine st7 _ ?_
                  refine st28 _ ?_
                  refine st30 _ ?_
                  refine st39 _ ?_
                  refine st41 _ ?_
                  refine st44 _ ?_
                  refine st45 _ ?_
                  show Steps p.tables e below (T5.setTop (mkF m 80 #[.val (.ref a1), .val (.int (Int32.ofNat i)), .val (.int (-1 : Int32)), .val (.int (C i))] [(.int (-1 : Int32))])) _
                  exact retI X5 hx Bd.returns (hb hby d25_80) hr
                · show Q25 Z a1 N C i wc fm h0 n0 _ T5.heap _
                  rw [e5]
                  exact ⟨_, rfl, N5, rfl, own_hx_no (own_hex_no (Or.inr hc25_27) (Or.inr hc45_38) (Or.inr hc68_43))⟩
              · -- pc 68: not (70 : Int32) < (C i)
                have st46 : ∀ tg, Steps p.tables e below (T5.setTop (mkF m 80 #[.val (.ref a1), .val (.int (Int32.ofNat i)), .val (.int (((C i) - (65 : Int32)) + (10 : Int32))), .val (.int (C i))] [(.int (((C i) - (65 : Int32)) + (10 : Int32)))])) tg → Steps p.tables e below (T5.setTop (mkF m 68 #[.val (.ref a1), .val (.int (Int32.ofNat i)), .val (.int (-1 : Int32)), .val (.int (C i))] [(.int (70 : Int32)), (.int (C i))])) tg := by
                  intro tg kt
                  refine XS.icmpNo X5.here hx rfl (hb hby d25_68) rfl (XT.ii_gt_f hc68_43) ?_
                  refine XS.iloadN X5.here hx rfl (hb hby d25_71) rfl ?_
                  refine XS.bipush X5.here hx rfl (hb hby d25_72) ?_
                  refine XS.isub X5.here hx rfl (hb hby d25_74) rfl ?_
                  show Steps p.tables e below (T5.setTop (mkF m 75 #[.val (.ref a1), .val (.int (Int32.ofNat i)), .val (.int (-1 : Int32)), .val (.int (C i))] [(.int ((C i) - (65 : Int32)))])) tg
                  refine XS.bipush X5.here hx rfl (hb hby d25_75) ?_
                  refine XS.iadd X5.here hx rfl (hb hby d25_77) rfl ?_
                  refine XS.istoreN X5.here hx rfl (hb hby d25_78) rfl (l' := #[.val (.ref a1), .val (.int (Int32.ofNat i)), .val (.int (((C i) - (65 : Int32)) + (10 : Int32))), .val (.int (C i))]) rfl ?_
                  refine XS.iloadN X5.here hx rfl (hb hby d25_79) rfl ?_
                  exact kt
                obtain ⟨fs, hr, hrun, hended, hW, hsame⟩ := X5.leave (v := some (.int (((C i) - (65 : Int32)) + (10 : Int32)))) (fun h => by rw [Bd.returns] at h; cases h)
                refine ⟨_, _, pre0 _ ?_, hrun, hended, _, _, rfl, ?_, ⟨_, rfl⟩, hW, hsame.mono (by decide) (by decide)⟩
                · refine st1 _ ?_
                  show Steps p.tables e below (s₁.setTop (mkF m 4 #[.val (.ref a1), .val (.int (Int32.ofNat i)), .val (.int (-1 : Int32)), .unset] [(.ref a1), (.int (Int32.ofNat i))])) _
                  refine st2.trans ?_
                  refine st4 _ ?_
                  show Steps p.tables e below (T2.setTop (mkF m 12 #[.val (.ref a1), .val (.int (Int32.ofNat i)), .val (.int (-1 : Int32)), .unset] [(.int (Int32.ofNat i)), (.ref a1)])) _
                  refine st5.trans ?_
                  refine st7 _ ?_
                  refine st28 _ ?_
                  refine st30 _ ?_
                  refine st39 _ ?_
                  refine st41 _ ?_
                  refine st44 _ ?_
                  refine st46 _ ?_
                  show Steps p.tables e below (T5.setTop (mkF m 80 #[.val (.ref a1), .val (.int (Int32.ofNat i)), .val (.int (((C i) - (65 : Int32)) + (10 : Int32))), .val (.int (C i))] [(.int (((C i) - (65 : Int32)) + (10 : Int32)))])) _
                  exact retI X5 hx Bd.returns (hb hby d25_80) hr
                · show Q25 Z a1 N C i wc fm h0 n0 _ T5.heap _
                  rw [e5]
                  exact ⟨_, rfl, N5, rfl, own_hx_up (by omega) hc62_40 hc68_43⟩
          · -- pc 45: not (102 : Int32) < (C i)
            have st47 : ∀ tg, Steps p.tables e below (T5.setTop (mkF m 80 #[.val (.ref a1), .val (.int (Int32.ofNat i)), .val (.int (((C i) - (97 : Int32)) + (10 : Int32))), .val (.int (C i))] [(.int (((C i) - (97 : Int32)) + (10 : Int32)))])) tg → Steps p.tables e below (T5.setTop (mkF m 45 #[.val (.ref a1), .val (.int (Int32.ofNat i)), .val (.int (-1 : Int32)), .val (.int (C i))] [(.int (102 : Int32)), (.int (C i))])) tg := by
              intro tg kt
              refine XS.icmpNo X5.here hx rfl (hb hby d25_45) rfl (XT.ii_gt_f hc45_38) ?_
              refine XS.iloadN X5.here hx rfl (hb hby d25_48) rfl ?_
              refine XS.bipush X5.here hx rfl (hb hby d25_49) ?_
              refine XS.isub X5.here hx rfl (hb hby d25_51) rfl ?_
              show Steps p.tables e below (T5.setTop (mkF m 52 #[.val (.ref a1), .val (.int (Int32.ofNat i)), .val (.int (-1 : Int32)), .val (.int (C i))] [(.int ((C i) - (97 : Int32)))])) tg
              refine XS.bipush X5.here hx rfl (hb hby d25_52) ?_
              refine XS.iadd X5.here hx rfl (hb hby d25_54) rfl ?_
              refine XS.istoreN X5.here hx rfl (hb hby d25_55) rfl (l' := #[.val (.ref a1), .val (.int (Int32.ofNat i)), .val (.int (((C i) - (97 : Int32)) + (10 : Int32))), .val (.int (C i))]) rfl ?_
              refine XS.goto X5.here hx rfl (pc0 := 56) (pc' := 79) rfl (hb hby d25_56) (by decide) (by decide) ?_
              show Steps p.tables e below (T5.setTop (mkF m 79 #[.val (.ref a1), .val (.int (Int32.ofNat i)), .val (.int (((C i) - (97 : Int32)) + (10 : Int32))), .val (.int (C i))] [])) tg
              refine XS.iloadN X5.here hx rfl (hb hby d25_79) rfl ?_
              exact kt
            obtain ⟨fs, hr, hrun, hended, hW, hsame⟩ := X5.leave (v := some (.int (((C i) - (97 : Int32)) + (10 : Int32)))) (fun h => by rw [Bd.returns] at h; cases h)
            refine ⟨_, _, pre0 _ ?_, hrun, hended, _, _, rfl, ?_, ⟨_, rfl⟩, hW, hsame.mono (by decide) (by decide)⟩
            · refine st1 _ ?_
              show Steps p.tables e below (s₁.setTop (mkF m 4 #[.val (.ref a1), .val (.int (Int32.ofNat i)), .val (.int (-1 : Int32)), .unset] [(.ref a1), (.int (Int32.ofNat i))])) _
              refine st2.trans ?_
              refine st4 _ ?_
              show Steps p.tables e below (T2.setTop (mkF m 12 #[.val (.ref a1), .val (.int (Int32.ofNat i)), .val (.int (-1 : Int32)), .unset] [(.int (Int32.ofNat i)), (.ref a1)])) _
              refine st5.trans ?_
              refine st7 _ ?_
              refine st28 _ ?_
              refine st30 _ ?_
              refine st39 _ ?_
              refine st47 _ ?_
              show Steps p.tables e below (T5.setTop (mkF m 80 #[.val (.ref a1), .val (.int (Int32.ofNat i)), .val (.int (((C i) - (97 : Int32)) + (10 : Int32))), .val (.int (C i))] [(.int (((C i) - (97 : Int32)) + (10 : Int32)))])) _
              exact retI X5 hx Bd.returns (hb hby d25_80) hr
            · show Q25 Z a1 N C i wc fm h0 n0 _ T5.heap _
              rw [e5]
              exact ⟨_, rfl, N5, rfl, own_hx_low (by omega) hc39_29 hc45_38⟩
      · -- pc 25: not (57 : Int32) < (C i)
        have st48 : ∀ tg, Steps p.tables e below (T5.setTop (mkF m 80 #[.val (.ref a1), .val (.int (Int32.ofNat i)), .val (.int ((C i) - (48 : Int32))), .val (.int (C i))] [(.int ((C i) - (48 : Int32)))])) tg → Steps p.tables e below (T5.setTop (mkF m 25 #[.val (.ref a1), .val (.int (Int32.ofNat i)), .val (.int (-1 : Int32)), .val (.int (C i))] [(.int (57 : Int32)), (.int (C i))])) tg := by
          intro tg kt
          refine XS.icmpNo X5.here hx rfl (hb hby d25_25) rfl (XT.ii_gt_f hc25_27) ?_
          refine XS.iloadN X5.here hx rfl (hb hby d25_28) rfl ?_
          refine XS.bipush X5.here hx rfl (hb hby d25_29) ?_
          refine XS.isub X5.here hx rfl (hb hby d25_31) rfl ?_
          show Steps p.tables e below (T5.setTop (mkF m 32 #[.val (.ref a1), .val (.int (Int32.ofNat i)), .val (.int (-1 : Int32)), .val (.int (C i))] [(.int ((C i) - (48 : Int32)))])) tg
          refine XS.istoreN X5.here hx rfl (hb hby d25_32) rfl (l' := #[.val (.ref a1), .val (.int (Int32.ofNat i)), .val (.int ((C i) - (48 : Int32))), .val (.int (C i))]) rfl ?_
          refine XS.goto X5.here hx rfl (pc0 := 33) (pc' := 79) rfl (hb hby d25_33) (by decide) (by decide) ?_
          refine XS.iloadN X5.here hx rfl (hb hby d25_79) rfl ?_
          exact kt
        obtain ⟨fs, hr, hrun, hended, hW, hsame⟩ := X5.leave (v := some (.int ((C i) - (48 : Int32)))) (fun h => by rw [Bd.returns] at h; cases h)
        refine ⟨_, _, pre0 _ ?_, hrun, hended, _, _, rfl, ?_, ⟨_, rfl⟩, hW, hsame.mono (by decide) (by decide)⟩
        · refine st1 _ ?_
          show Steps p.tables e below (s₁.setTop (mkF m 4 #[.val (.ref a1), .val (.int (Int32.ofNat i)), .val (.int (-1 : Int32)), .unset] [(.ref a1), (.int (Int32.ofNat i))])) _
          refine st2.trans ?_
          refine st4 _ ?_
          show Steps p.tables e below (T2.setTop (mkF m 12 #[.val (.ref a1), .val (.int (Int32.ofNat i)), .val (.int (-1 : Int32)), .unset] [(.int (Int32.ofNat i)), (.ref a1)])) _
          refine st5.trans ?_
          refine st7 _ ?_
          refine st28 _ ?_
          refine st48 _ ?_
          show Steps p.tables e below (T5.setTop (mkF m 80 #[.val (.ref a1), .val (.int (Int32.ofNat i)), .val (.int ((C i) - (48 : Int32))), .val (.int (C i))] [(.int ((C i) - (48 : Int32)))])) _
          exact retI X5 hx Bd.returns (hb hby d25_80) hr
        · show Q25 Z a1 N C i wc fm h0 n0 _ T5.heap _
          rw [e5]
          exact ⟨_, rfl, N5, rfl, own_hx_dig (by omega) hc19_6 hc25_27⟩
  · -- pc 7: not (Int32.ofNat i) < (Int32.ofNat N)
    have hc7_3n : ¬ i < N := fun q => hc7_3 ((own_lt (by omega) (by omega)).mpr q)
    have st49 : ∀ tg, Steps p.tables e below (T2.setTop (mkF m 80 #[.val (.ref a1), .val (.int (Int32.ofNat i)), .val (.int (-1 : Int32)), .unset] [(.int (-1 : Int32))])) tg → Steps p.tables e below (T2.setTop (mkF m 7 #[.val (.ref a1), .val (.int (Int32.ofNat i)), .val (.int (-1 : Int32)), .unset] [(.int (Int32.ofNat N)), (.int (Int32.ofNat i))])) tg := by
      intro tg kt
      refine XS.icmpYes X2.here hx rfl (pc0 := 7) (pc' := 79) rfl (hb hby d25_7) rfl (XT.ii_ge_t hc7_3) (by decide) (by decide) ?_
      refine XS.iloadN X2.here hx rfl (hb hby d25_79) rfl ?_
      exact kt
    obtain ⟨fs, hr, hrun, hended, hW, hsame⟩ := X2.leave (v := some (.int (-1 : Int32))) (fun h => by rw [Bd.returns] at h; cases h)
    refine ⟨_, _, pre0 _ ?_, hrun, hended, _, _, rfl, ?_, ⟨_, rfl⟩, hW, hsame.mono (by decide) (by decide)⟩
    · refine st1 _ ?_
      show Steps p.tables e below (s₁.setTop (mkF m 4 #[.val (.ref a1), .val (.int (Int32.ofNat i)), .val (.int (-1 : Int32)), .unset] [(.ref a1), (.int (Int32.ofNat i))])) _
      refine st2.trans ?_
      refine st49 _ ?_
      show Steps p.tables e below (T2.setTop (mkF m 80 #[.val (.ref a1), .val (.int (Int32.ofNat i)), .val (.int (-1 : Int32)), .unset] [(.int (-1 : Int32))])) _
      exact retI X2 hx Bd.returns (hb hby d25_80) hr
    · show Q25 Z a1 N C i wc fm h0 n0 _ T2.heap _
      rw [e2]
      exact ⟨_, rfl, N2, rfl, own_hx_none (by omega)⟩
theorem d24_0 : decode prog_19_method_7_code 0 = .ok (.aload_n 0, 1) := by decide +kernel
theorem d24_1 : decode prog_19_method_7_code 1 = .ok (.iload_n 1, 1) := by decide +kernel
theorem d24_2 : decode prog_19_method_7_code 2 = .ok (.iconst 1, 1) := by decide +kernel
theorem d24_3 : decode prog_19_method_7_code 3 = .ok (.iadd, 1) := by decide +kernel
theorem d24_4 : decode prog_19_method_7_code 4 = .ok (.invokestatic 88, 3) := by decide +kernel
theorem d24_7 : decode prog_19_method_7_code 7 = .ok (.istore_n 2, 1) := by decide +kernel
theorem d24_8 : decode prog_19_method_7_code 8 = .ok (.aload_n 0, 1) := by decide +kernel
theorem d24_9 : decode prog_19_method_7_code 9 = .ok (.iload_n 1, 1) := by decide +kernel
theorem d24_10 : decode prog_19_method_7_code 10 = .ok (.iconst 2, 1) := by decide +kernel
theorem d24_11 : decode prog_19_method_7_code 11 = .ok (.iadd, 1) := by decide +kernel
theorem d24_12 : decode prog_19_method_7_code 12 = .ok (.invokestatic 88, 3) := by decide +kernel
theorem d24_15 : decode prog_19_method_7_code 15 = .ok (.istore_n 3, 1) := by decide +kernel
theorem d24_16 : decode prog_19_method_7_code 16 = .ok (.iload_n 2, 1) := by decide +kernel
theorem d24_17 : decode prog_19_method_7_code 17 = .ok (.ifCond .lt 7, 3) := by decide +kernel
theorem d24_20 : decode prog_19_method_7_code 20 = .ok (.iload_n 3, 1) := by decide +kernel
theorem d24_21 : decode prog_19_method_7_code 21 = .ok (.ifCond .ge 7, 3) := by decide +kernel
theorem d24_24 : decode prog_19_method_7_code 24 = .ok (.iconst (-1), 1) := by decide +kernel
theorem d24_25 : decode prog_19_method_7_code 25 = .ok (.goto 9, 3) := by decide +kernel
theorem d24_28 : decode prog_19_method_7_code 28 = .ok (.iload_n 2, 1) := by decide +kernel
theorem d24_29 : decode prog_19_method_7_code 29 = .ok (.bipush 16, 2) := by decide +kernel
theorem d24_31 : decode prog_19_method_7_code 31 = .ok (.imul, 1) := by decide +kernel
theorem d24_32 : decode prog_19_method_7_code 32 = .ok (.iload_n 3, 1) := by decide +kernel
theorem d24_33 : decode prog_19_method_7_code 33 = .ok (.iadd, 1) := by decide +kernel
theorem d24_34 : decode prog_19_method_7_code 34 = .ok (.ireturn, 1) := by decide +kernel
theorem pn_24 : plainName "com/example/grantline/grantline/PercentEncoding" = true := by first | (simp [plainName, overriddenIn]; done) | decide +kernel
theorem ef_24 (m : MethodId) (a1 : Addr) (y1 : Int32) : entryFrame m #[(.ref a1), (.int y1)] 4 = mkF m 0 #[.val (.ref a1), .val (.int y1), .unset, .unset] [] := by first | (simp [entryFrame, mkF, argsToLocals, Value.category]; done) | rfl
def Q24 (Z : State) (a1 : Addr) (N : Nat) (C : Nat → Int32) (i : Nat) (wc : Int32) (fm : Value) (h0 : Heap) (n0 : Nat) (v : Option Value) (h : Heap) (L : List Loc) : Prop := ∃ z : Int32, v = some (.int z) ∧ Fr n0 L ∧ h = h0 ∧ EnS N C i z
set_option maxRecDepth 65536 in
set_option maxHeartbeats 40000000 in
theorem rm24 (l : Launch) (Z : State) (a0 : Array Value) (hw : ∀ d ∈ tables_1, d.before a0 Z = true) (ws : List Jvm.Cond) (a1 : Addr) (N : Nat) (C : Nat → Int32) (i : Nat) (wc : Int32) (fm : Value) (h0 : Heap) (n0 : Nat) (Z0 : n0 ≤ h0.size) (OLD : Old Z n0 h0) (S_c : Sta Z Z.heap "java/lang/String" "COMPACT_STRINGS" "Z" (.int wc)) (hwc : ¬ wc = 0) (hfm : fm.isRef = true) (S_f : Sta Z Z.heap "jdk/internal/util/Preconditions" "SIOOBE_FORMATTER" "Ljava/util/function/BiFunction;" fm) (S_a : Sta Z Z.heap "java/lang/StringUTF16" "$assertionsDisabled" "Z" (.int (1 : Int32))) (S_h : Sta Z Z.heap "java/lang/StringUTF16" "HI_BYTE_SHIFT" "I" (.int (0 : Int32))) (S_l : Sta Z Z.heap "java/lang/StringUTF16" "LO_BYTE_SHIFT" "I" (.int (8 : Int32))) (hN : N ≤ 100) (hi3 : i ≤ 190) (HS : StrF Z h0 a1 N C) :
    MetFree l (⟨"com/example/grantline/grantline/PercentEncoding", "encodedByte", "(Ljava/lang/String;I)I"⟩ : MethodName) (head1 (Jvm.Cond.code (⟨"com/example/grantline/grantline/PercentEncoding", "encodedByte", "(Ljava/lang/String;I)I"⟩ : MethodName) prog_19_method_7_code 4 (some .int) :: ws) ({ frames := 6, cells := 0, slots := 0, locals := 98 } : Room)) (fun a U => a = #[(.ref a1), (.int (Int32.ofNat i))] ∧ Z.Warmed39 U.vm ∧ U.heap = h0) (fun _ _ _ _ _ => True) (fun _ U oo U' => ∃ v L, oo = .returned v ∧ Q24 Z a1 N C i wc fm h0 n0 v U'.heap L ∧ FrameEnd U oo U' L ({ frames := 6, cells := 0, slots := 0, locals := 98 } : Room).cells ({ frames := 6, cells := 0, slots := 0, locals := 98 } : Room).slots) := by
  refine MetFree.of_bodySF (plainFor_of_name pn_24) hisR ?_
  intro p e s m args below meth c s₁ Bd hml0 hP hK
  obtain ⟨rfl, hZ, hh⟩ := hP
  have hx := Bd.exec
  have hby := Bd.bytes
  have hml : c.maxLocals = 4 := hml0
  have hown : s.vm.findClass "com/example/grantline/grantline/PercentEncoding" = some m.cls := findClass_of_methodNamed Bd.named
  have hnm := (name_of_methodNamed Bd.named Bd.method).1
  have X0 : Stand p l e ({ frames := 6, cells := 0, slots := 0, locals := 98 } : Room) s m #[(.ref a1), (.int (Int32.ofNat i))] below meth c s₁ [] 0 0 := Stand.of_body Bd
  have e0 : s₁.heap = h0 := by rw [← hh, Bd.state]; rfl
  have N0 := Fr.nil n0
  have K0 : Keep h0 h0 [] := Keep.refl _ _
  have pre0 : ∀ tg, Steps p.tables e below (s₁.setTop (mkF m 0 #[.val (.ref a1), .val (.int (Int32.ofNat i)), .unset, .unset] [])) tg → Steps p.tables e below (s₁.setTop (entryFrame m #[(.ref a1), (.int (Int32.ofNat i))] 4)) tg := fun tg k => castTop (ef_24 m a1 (Int32.ofNat i)) k
  have st1 : ∀ tg, Steps p.tables e below (s₁.setTop (mkF m 4 #[.val (.ref a1), .val (.int (Int32.ofNat i)), .unset, .unset] [(.int (Int32.ofNat (i + 1))), (.ref a1)])) tg → Steps p.tables e below (s₁.setTop (mkF m 0 #[.val (.ref a1), .val (.int (Int32.ofNat i)), .unset, .unset] [])) tg := by
    intro tg kt
    refine XS.aloadN X0.here hx rfl (hb hby d24_0) rfl rfl ?_
    refine XS.iloadN X0.here hx rfl (hb hby d24_1) rfl ?_
    refine XS.iconst X0.here hx rfl (hb hby d24_2) ?_
    refine XS.iadd X0.here hx rfl (hb hby d24_3) rfl ?_
    show Steps p.tables e below (s₁.setTop (mkF m 4 #[.val (.ref a1), .val (.int (Int32.ofNat i)), .unset, .unset] [(.int (Int32.ofNat i + (1 : Int32))), (.ref a1)])) tg
    rw [show (Int32.ofNat i + (1 : Int32)) = Int32.ofNat (i + 1) from own_addn _ _]
    exact kt
  obtain ⟨_, _, ⟨T2, L2, k2, n2⟩, -, X2, ⟨Lc2, hQ2, l2, y2, z2⟩, st2⟩ := Jvm.LawKit.callS X0 hx (y := (⟨"com/example/grantline/grantline/PercentEncoding", "hexDigit", "(Ljava/lang/String;I)I"⟩ : MethodName)) hown (mvT hZ (hw _ (List.mem_of_getElem? (i := 108) rfl))) (mvT hZ (hw _ (List.mem_of_getElem? (i := 109) rfl))) (mvT hZ (hw _ (List.mem_of_getElem? (i := 57) rfl))) (mvT hZ (hw _ (List.mem_of_getElem? (i := 110) rfl))) (by decide) (backOf (W := 0) (rm25 l Z a0 hw [] a1 N C (i + 1) wc fm h0 n0 Z0 OLD S_c hwc hfm S_f S_a S_h S_l hN (by omega) HS) hZ (hw _ (List.mem_of_getElem? (i := 110) rfl)) (hw _ (List.mem_of_getElem? (i := 57) rfl)) (by decide) (by decide)) (g := (mkF m 4 #[.val (.ref a1), .val (.int (Int32.ofNat i)), .unset, .unset] [(.int (Int32.ofNat (i + 1))), (.ref a1)])) rfl (by rw [hml]; rfl) (argsL := [(.ref a1), (.int (Int32.ofNat (i + 1)))]) (rest := []) (lenOf pd_15 rfl) rfl (by show 2 * 0 + _ ≤ _; exact Nat.le_of_eq rfl) (hb hby d24_4) (fun _ _ => ⟨rfl, e0, (by decide : 0 + 0 ≤ _), (by decide : 0 + 0 ≤ _)⟩)
  dsimp only [Pt.U, Pt.locs, Pt.cells, Pt.slots] at X2 l2 y2 z2 st2 hQ2
  subst l2 y2 z2
  obtain ⟨z2, rfl, N2q, e2, Pz2⟩ := hQ2
  have N2 := Fr.app N0 N2q
  have st3 : ∀ tg, Steps p.tables e below (T2.setTop (mkF m 12 #[.val (.ref a1), .val (.int (Int32.ofNat i)), .val (.int z2), .unset] [(.int (Int32.ofNat (i + 2))), (.ref a1)])) tg → Steps p.tables e below (T2.setTop (mkF m 7 #[.val (.ref a1), .val (.int (Int32.ofNat i)), .unset, .unset] [(.int z2)])) tg := by
    intro tg kt
    refine XS.istoreN X2.here hx rfl (hb hby d24_7) rfl (l' := #[.val (.ref a1), .val (.int (Int32.ofNat i)), .val (.int z2), .unset]) rfl ?_
    refine XS.aloadN X2.here hx rfl (hb hby d24_8) rfl rfl ?_
    refine XS.iloadN X2.here hx rfl (hb hby d24_9) rfl ?_
    refine XS.iconst X2.here hx rfl (hb hby d24_10) ?_
    show Steps p.tables e below (T2.setTop (mkF m 11 #[.val (.ref a1), .val (.int (Int32.ofNat i)), .val (.int z2), .unset] [(.int (2 : Int32)), (.int (Int32.ofNat i)), (.ref a1)])) tg
    refine XS.iadd X2.here hx rfl (hb hby d24_11) rfl ?_
    show Steps p.tables e below (T2.setTop (mkF m 12 #[.val (.ref a1), .val (.int (Int32.ofNat i)), .val (.int z2), .unset] [(.int (Int32.ofNat i + (2 : Int32))), (.ref a1)])) tg
    rw [show (Int32.ofNat i + (2 : Int32)) = Int32.ofNat (i + 2) from own_addn _ _]
    exact kt
  obtain ⟨_, _, ⟨T4, L4, k4, n4⟩, -, X4, ⟨Lc4, hQ4, l4, y4, z4⟩, st4⟩ := Jvm.LawKit.callS X2 hx (y := (⟨"com/example/grantline/grantline/PercentEncoding", "hexDigit", "(Ljava/lang/String;I)I"⟩ : MethodName)) hown (mvT hZ (hw _ (List.mem_of_getElem? (i := 108) rfl))) (mvT hZ (hw _ (List.mem_of_getElem? (i := 109) rfl))) (mvT hZ (hw _ (List.mem_of_getElem? (i := 57) rfl))) (mvT hZ (hw _ (List.mem_of_getElem? (i := 110) rfl))) (by decide) (backOf (W := 0) (rm25 l Z a0 hw [] a1 N C (i + 2) wc fm h0 n0 Z0 OLD S_c hwc hfm S_f S_a S_h S_l hN (by omega) HS) hZ (hw _ (List.mem_of_getElem? (i := 110) rfl)) (hw _ (List.mem_of_getElem? (i := 57) rfl)) (by decide) (by decide)) (g := (mkF m 12 #[.val (.ref a1), .val (.int (Int32.ofNat i)), .val (.int z2), .unset] [(.int (Int32.ofNat (i + 2))), (.ref a1)])) rfl (by rw [hml]; rfl) (argsL := [(.ref a1), (.int (Int32.ofNat (i + 2)))]) (rest := []) (lenOf pd_15 rfl) rfl (by show 2 * 0 + _ ≤ _; exact Nat.le_of_eq rfl) (hb hby d24_12) (fun _ _ => ⟨rfl, e2, (by decide : 0 + 0 ≤ _), (by decide : 0 + 0 ≤ _)⟩)
  dsimp only [Pt.U, Pt.locs, Pt.cells, Pt.slots] at X4 l4 y4 z4 st4 hQ4
  subst l4 y4 z4
  obtain ⟨z4, rfl, N4q, e4, Pz4⟩ := hQ4
  have N4 := Fr.app N2 N4q
  have st6 : ∀ tg, Steps p.tables e below (T4.setTop (mkF m 17 #[.val (.ref a1), .val (.int (Int32.ofNat i)), .val (.int z2), .val (.int z4)] [(.int z2)])) tg → Steps p.tables e below (T4.setTop (mkF m 15 #[.val (.ref a1), .val (.int (Int32.ofNat i)), .val (.int z2), .unset] [(.int z4)])) tg := by
    intro tg kt
    refine XS.istoreN X4.here hx rfl (hb hby d24_15) rfl (l' := #[.val (.ref a1), .val (.int (Int32.ofNat i)), .val (.int z2), .val (.int z4)]) rfl ?_
    refine XS.iloadN X4.here hx rfl (hb hby d24_16) rfl ?_
    exact kt
  by_cases hc17_5 : z2 < 0
  · -- pc 17: z2 < 0
    have st7 : ∀ tg, Steps p.tables e below (T4.setTop (mkF m 34 #[.val (.ref a1), .val (.int (Int32.ofNat i)), .val (.int z2), .val (.int z4)] [(.int (-1 : Int32))])) tg → Steps p.tables e below (T4.setTop (mkF m 17 #[.val (.ref a1), .val (.int (Int32.ofNat i)), .val (.int z2), .val (.int z4)] [(.int z2)])) tg := by
      intro tg kt
      refine XS.ifYes X4.here hx rfl (pc0 := 17) (pc' := 24) rfl (hb hby d24_17) rfl (XT.i0_lt_t hc17_5) (by decide) (by decide) ?_
      refine XS.iconst X4.here hx rfl (hb hby d24_24) ?_
      refine XS.goto X4.here hx rfl (pc0 := 25) (pc' := 34) rfl (hb hby d24_25) (by decide) (by decide) ?_
      exact kt
    obtain ⟨fs, hr, hrun, hended, hW, hsame⟩ := X4.leave (v := some (.int (-1 : Int32))) (fun h => by rw [Bd.returns] at h; cases h)
    refine ⟨_, _, pre0 _ ?_, hrun, hended, _, _, rfl, ?_, ⟨_, rfl⟩, hW, hsame.mono (by decide) (by decide)⟩
    · refine st1 _ ?_
      show Steps p.tables e below (s₁.setTop (mkF m 4 #[.val (.ref a1), .val (.int (Int32.ofNat i)), .unset, .unset] [(.int (Int32.ofNat (i + 1))), (.ref a1)])) _
      refine st2 _ ?_
      refine st3 _ ?_
      show Steps p.tables e below (T2.setTop (mkF m 12 #[.val (.ref a1), .val (.int (Int32.ofNat i)), .val (.int z2), .unset] [(.int (Int32.ofNat (i + 2))), (.ref a1)])) _
      refine st4 _ ?_
      refine st6 _ ?_
      refine st7 _ ?_
      show Steps p.tables e below (T4.setTop (mkF m 34 #[.val (.ref a1), .val (.int (Int32.ofNat i)), .val (.int z2), .val (.int z4)] [(.int (-1 : Int32))])) _
      exact retI X4 hx Bd.returns (hb hby d24_34) hr
    · show Q24 Z a1 N C i wc fm h0 n0 _ T4.heap _
      rw [e4]
      exact ⟨_, rfl, N4, rfl, own_en_1 Pz2 hc17_5⟩
  · -- pc 17: not z2 < 0
    have st9 : ∀ tg, Steps p.tables e below (T4.setTop (mkF m 21 #[.val (.ref a1), .val (.int (Int32.ofNat i)), .val (.int z2), .val (.int z4)] [(.int z4)])) tg → Steps p.tables e below (T4.setTop (mkF m 17 #[.val (.ref a1), .val (.int (Int32.ofNat i)), .val (.int z2), .val (.int z4)] [(.int z2)])) tg := by
      intro tg kt
      refine XS.ifNo X4.here hx rfl (hb hby d24_17) rfl (XT.i0_lt_f hc17_5) ?_
      refine XS.iloadN X4.here hx rfl (hb hby d24_20) rfl ?_
      exact kt
    by_cases hc21_8 : z4 < 0
    · -- pc 21: z4 < 0
      have st10 : ∀ tg, Steps p.tables e below (T4.setTop (mkF m 34 #[.val (.ref a1), .val (.int (Int32.ofNat i)), .val (.int z2), .val (.int z4)] [(.int (-1 : Int32))])) tg → Steps p.tables e below (T4.setTop (mkF m 21 #[.val (.ref a1), .val (.int (Int32.ofNat i)), .val (.int z2), .val (.int z4)] [(.int z4)])) tg := by
        intro tg kt
        refine XS.ifNo X4.here hx rfl (hb hby d24_21) rfl (XT.i0_ge_f hc21_8) ?_
        refine XS.iconst X4.here hx rfl (hb hby d24_24) ?_
        refine XS.goto X4.here hx rfl (pc0 := 25) (pc' := 34) rfl (hb hby d24_25) (by decide) (by decide) ?_
        exact kt
      obtain ⟨fs, hr, hrun, hended, hW, hsame⟩ := X4.leave (v := some (.int (-1 : Int32))) (fun h => by rw [Bd.returns] at h; cases h)
      refine ⟨_, _, pre0 _ ?_, hrun, hended, _, _, rfl, ?_, ⟨_, rfl⟩, hW, hsame.mono (by decide) (by decide)⟩
      · refine st1 _ ?_
        show Steps p.tables e below (s₁.setTop (mkF m 4 #[.val (.ref a1), .val (.int (Int32.ofNat i)), .unset, .unset] [(.int (Int32.ofNat (i + 1))), (.ref a1)])) _
        refine st2 _ ?_
        refine st3 _ ?_
        show Steps p.tables e below (T2.setTop (mkF m 12 #[.val (.ref a1), .val (.int (Int32.ofNat i)), .val (.int z2), .unset] [(.int (Int32.ofNat (i + 2))), (.ref a1)])) _
        refine st4 _ ?_
        refine st6 _ ?_
        refine st9 _ ?_
        refine st10 _ ?_
        show Steps p.tables e below (T4.setTop (mkF m 34 #[.val (.ref a1), .val (.int (Int32.ofNat i)), .val (.int z2), .val (.int z4)] [(.int (-1 : Int32))])) _
        exact retI X4 hx Bd.returns (hb hby d24_34) hr
      · show Q24 Z a1 N C i wc fm h0 n0 _ T4.heap _
        rw [e4]
        exact ⟨_, rfl, N4, rfl, own_en_2 Pz4 hc21_8⟩
    · -- pc 21: not z4 < 0
      have st11 : ∀ tg, Steps p.tables e below (T4.setTop (mkF m 34 #[.val (.ref a1), .val (.int (Int32.ofNat i)), .val (.int z2), .val (.int z4)] [(.int ((z2 * (16 : Int32)) + z4))])) tg → Steps p.tables e below (T4.setTop (mkF m 21 #[.val (.ref a1), .val (.int (Int32.ofNat i)), .val (.int z2), .val (.int z4)] [(.int z4)])) tg := by
        intro tg kt
        refine XS.ifYes X4.here hx rfl (pc0 := 21) (pc' := 28) rfl (hb hby d24_21) rfl (XT.i0_ge_t hc21_8) (by decide) (by decide) ?_
        refine XS.iloadN X4.here hx rfl (hb hby d24_28) rfl ?_
        refine XS.bipush X4.here hx rfl (hb hby d24_29) ?_
        refine XS.imul X4.here hx rfl (hb hby d24_31) rfl ?_
        show Steps p.tables e below (T4.setTop (mkF m 32 #[.val (.ref a1), .val (.int (Int32.ofNat i)), .val (.int z2), .val (.int z4)] [(.int (z2 * (16 : Int32)))])) tg
        refine XS.iloadN X4.here hx rfl (hb hby d24_32) rfl ?_
        refine XS.iadd X4.here hx rfl (hb hby d24_33) rfl ?_
        exact kt
      obtain ⟨fs, hr, hrun, hended, hW, hsame⟩ := X4.leave (v := some (.int ((z2 * (16 : Int32)) + z4))) (fun h => by rw [Bd.returns] at h; cases h)
      refine ⟨_, _, pre0 _ ?_, hrun, hended, _, _, rfl, ?_, ⟨_, rfl⟩, hW, hsame.mono (by decide) (by decide)⟩
      · refine st1 _ ?_
        show Steps p.tables e below (s₁.setTop (mkF m 4 #[.val (.ref a1), .val (.int (Int32.ofNat i)), .unset, .unset] [(.int (Int32.ofNat (i + 1))), (.ref a1)])) _
        refine st2 _ ?_
        refine st3 _ ?_
        show Steps p.tables e below (T2.setTop (mkF m 12 #[.val (.ref a1), .val (.int (Int32.ofNat i)), .val (.int z2), .unset] [(.int (Int32.ofNat (i + 2))), (.ref a1)])) _
        refine st4 _ ?_
        refine st6 _ ?_
        refine st9 _ ?_
        refine st11 _ ?_
        show Steps p.tables e below (T4.setTop (mkF m 34 #[.val (.ref a1), .val (.int (Int32.ofNat i)), .val (.int z2), .val (.int z4)] [(.int ((z2 * (16 : Int32)) + z4))])) _
        exact retI X4 hx Bd.returns (hb hby d24_34) hr
      · show Q24 Z a1 N C i wc fm h0 n0 _ T4.heap _
        rw [e4]
        exact ⟨_, rfl, N4, rfl, own_en_3 Pz2 Pz4 hc17_5 hc21_8⟩
theorem d11_0 : decode prog_19_method_6_code 0 = .ok (.aload_n 0, 1) := by decide +kernel
theorem d11_1 : decode prog_19_method_6_code 1 = .ok (.bipush 37, 2) := by decide +kernel
theorem d11_3 : decode prog_19_method_6_code 3 = .ok (.invokevirtual 9, 3) := by decide +kernel
theorem d11_6 : decode prog_19_method_6_code 6 = .ok (.istore_n 1, 1) := by decide +kernel
theorem d11_7 : decode prog_19_method_6_code 7 = .ok (.iload_n 1, 1) := by decide +kernel
theorem d11_8 : decode prog_19_method_6_code 8 = .ok (.ifCond .lt 26, 3) := by decide +kernel
theorem d11_11 : decode prog_19_method_6_code 11 = .ok (.aload_n 0, 1) := by decide +kernel
theorem d11_12 : decode prog_19_method_6_code 12 = .ok (.iload_n 1, 1) := by decide +kernel
theorem d11_13 : decode prog_19_method_6_code 13 = .ok (.invokestatic 71, 3) := by decide +kernel
theorem d11_16 : decode prog_19_method_6_code 16 = .ok (.ifCond .ge 5, 3) := by decide +kernel
theorem d11_19 : decode prog_19_method_6_code 19 = .ok (.iconst 1, 1) := by decide +kernel
theorem d11_20 : decode prog_19_method_6_code 20 = .ok (.ireturn, 1) := by decide +kernel
theorem d11_21 : decode prog_19_method_6_code 21 = .ok (.aload_n 0, 1) := by decide +kernel
theorem d11_22 : decode prog_19_method_6_code 22 = .ok (.bipush 37, 2) := by decide +kernel
theorem d11_24 : decode prog_19_method_6_code 24 = .ok (.iload_n 1, 1) := by decide +kernel
theorem d11_25 : decode prog_19_method_6_code 25 = .ok (.iconst 1, 1) := by decide +kernel
theorem d11_26 : decode prog_19_method_6_code 26 = .ok (.iadd, 1) := by decide +kernel
theorem d11_27 : decode prog_19_method_6_code 27 = .ok (.invokevirtual 85, 3) := by decide +kernel
theorem d11_30 : decode prog_19_method_6_code 30 = .ok (.istore_n 1, 1) := by decide +kernel
theorem d11_31 : decode prog_19_method_6_code 31 = .ok (.goto (-24), 3) := by decide +kernel
theorem d11_34 : decode prog_19_method_6_code 34 = .ok (.iconst 0, 1) := by decide +kernel
theorem d11_35 : decode prog_19_method_6_code 35 = .ok (.ireturn, 1) := by decide +kernel
theorem pn_11 : plainName "com/example/grantline/grantline/PercentEncoding" = true := by first | (simp [plainName, overriddenIn]; done) | decide +kernel
theorem ef_11 (m : MethodId) (a1 : Addr) : entryFrame m #[(.ref a1)] 2 = mkF m 0 #[.val (.ref a1), .unset] [] := by first | (simp [entryFrame, mkF, argsToLocals, Value.category]; done) | rfl
def Q11 (Z : State) (a1 : Addr) (N : Nat) (C : Nat → Int32) (wc : Int32) (fm : Value) (h0 : Heap) (n0 : Nat) (v : Option Value) (h : Heap) (L : List Loc) : Prop := ∃ z : Int32, v = some (.int z) ∧ Fr n0 L ∧ h = h0 ∧ HbS N C z
set_option maxRecDepth 65536 in
set_option maxHeartbeats 40000000 in
theorem rm11 (l : Launch) (Z : State) (a0 : Array Value) (hw : ∀ d ∈ tables_1, d.before a0 Z = true) (ws : List Jvm.Cond) (a1 : Addr) (N : Nat) (C : Nat → Int32) (wc : Int32) (fm : Value) (h0 : Heap) (n0 : Nat) (Z0 : n0 ≤ h0.size) (OLD : Old Z n0 h0) (S_c : Sta Z Z.heap "java/lang/String" "COMPACT_STRINGS" "Z" (.int wc)) (hwc : ¬ wc = 0) (hfm : fm.isRef = true) (S_f : Sta Z Z.heap "jdk/internal/util/Preconditions" "SIOOBE_FORMATTER" "Ljava/util/function/BiFunction;" fm) (S_a : Sta Z Z.heap "java/lang/StringUTF16" "$assertionsDisabled" "Z" (.int (1 : Int32))) (S_h : Sta Z Z.heap "java/lang/StringUTF16" "HI_BYTE_SHIFT" "I" (.int (0 : Int32))) (S_l : Sta Z Z.heap "java/lang/StringUTF16" "LO_BYTE_SHIFT" "I" (.int (8 : Int32))) (hN : N ≤ 100) (HS : StrF Z h0 a1 N C) :
    MetFree l (⟨"com/example/grantline/grantline/PercentEncoding", "hasBadEscape", "(Ljava/lang/String;)Z"⟩ : MethodName) (head1 (Jvm.Cond.code (⟨"com/example/grantline/grantline/PercentEncoding", "hasBadEscape", "(Ljava/lang/String;)Z"⟩ : MethodName) prog_19_method_6_code 2 (some .boolean) :: ws) ({ frames := 9, cells := 0, slots := 0, locals := 177 } : Room)) (fun a U => a = #[(.ref a1)] ∧ Z.Warmed39 U.vm ∧ U.heap = h0) (fun _ _ _ _ _ => True) (fun _ U oo U' => ∃ v L, oo = .returned v ∧ Q11 Z a1 N C wc fm h0 n0 v U'.heap L ∧ FrameEnd U oo U' L ({ frames := 9, cells := 0, slots := 0, locals := 177 } : Room).cells ({ frames := 9, cells := 0, slots := 0, locals := 177 } : Room).slots) := by
  refine MetFree.of_bodySF (plainFor_of_name pn_11) hisR ?_
  intro p e s m args below meth c s₁ Bd hml0 hP hK
  obtain ⟨rfl, hZ, hh⟩ := hP
  have hx := Bd.exec
  have hby := Bd.bytes
  have hml : c.maxLocals = 2 := hml0
  have hown : s.vm.findClass "com/example/grantline/grantline/PercentEncoding" = some m.cls := findClass_of_methodNamed Bd.named
  have hnm := (name_of_methodNamed Bd.named Bd.method).1
  have X0 : Stand p l e ({ frames := 9, cells := 0, slots := 0, locals := 177 } : Room) s m #[(.ref a1)] below meth c s₁ [] 0 0 := Stand.of_body Bd
  have e0 : s₁.heap = h0 := by rw [← hh, Bd.state]; rfl
  have N0 := Fr.nil n0
  have K0 : Keep h0 h0 [] := Keep.refl _ _
  have pre0 : ∀ tg, Steps p.tables e below (s₁.setTop (mkF m 0 #[.val (.ref a1), .unset] [])) tg → Steps p.tables e below (s₁.setTop (entryFrame m #[(.ref a1)] 2)) tg := fun tg k => castTop (ef_11 m a1) k
  refine Classical.byContradiction fun hG => ?_
  have st1 : ∀ tg, Steps p.tables e below (s₁.setTop (mkF m 3 #[.val (.ref a1), .unset] [(.int (37 : Int32)), (.ref a1)])) tg → Steps p.tables e below (s₁.setTop (mkF m 0 #[.val (.ref a1), .unset] [])) tg := by
    intro tg kt
    refine XS.aloadN X0.here hx rfl (hb hby d11_0) rfl rfl ?_
    refine XS.bipush X0.here hx rfl (hb hby d11_1) ?_
    exact kt
  obtain ⟨cq2, kq2, q2a, q2b, q2c⟩ := isOf hZ e0 (StrF.exa HS)
  obtain ⟨_, _, ⟨T2, L2, k2, n2⟩, -, X2, ⟨Lc2, hQ2, l2, y2, z2⟩, st2⟩ := X0.virtualBack hx (y := (⟨"java/lang/String", "indexOf", "(I)I"⟩ : MethodName)) (z := (⟨"java/lang/String", "indexOf", "(I)I"⟩ : MethodName)) hown (mvT hZ (hw _ (List.mem_of_getElem? (i := 59) rfl))) (mvT hZ (hw _ (List.mem_of_getElem? (i := 60) rfl))) (notFace_of_selects (args := #[]) (mvT hZ (hw _ (List.mem_of_getElem? (i := 62) rfl)))) (mvT hZ (hw _ (List.mem_of_getElem? (i := 62) rfl))) (mvT hZ (hw _ (List.mem_of_getElem? (i := 61) rfl))) (by decide) (backOf (W := 0) (rm12 l Z a0 hw [] a1 N C wc fm h0 n0 Z0 OLD S_c hwc hfm S_f S_a S_h S_l hN HS) hZ (hw _ (List.mem_of_getElem? (i := 63) rfl)) (hw _ (List.mem_of_getElem? (i := 8) rfl)) (by decide) (by decide)) q2a q2c (g := (mkF m 3 #[.val (.ref a1), .unset] [(.int (37 : Int32)), (.ref a1)])) rfl (by rw [hml]; rfl) (Steps.refl _) (argsL := [(.int (37 : Int32))]) (rest := []) (lenOf pd_16 rfl) rfl (by show 2 * 0 + _ ≤ _; exact Nat.le_of_eq rfl) (hb hby d11_3) (fun _ _ => ⟨rfl, e0, (by decide : 0 + 0 ≤ _), (by decide : 0 + 0 ≤ _)⟩)
  dsimp only [Pt.U, Pt.locs, Pt.cells, Pt.slots] at X2 l2 y2 z2 st2 hQ2
  subst l2 y2 z2
  obtain ⟨z2, rfl, N2q, e2, Pz2⟩ := hQ2
  have N2 := Fr.app N0 N2q
  have st3 : ∀ tg, Steps p.tables e below (T2.setTop (mkF m 7 #[.val (.ref a1), .val (.int z2)] [])) tg → Steps p.tables e below (T2.setTop (mkF m 6 #[.val (.ref a1), .unset] [(.int z2)])) tg := by
    intro tg kt
    refine XS.istoreN X2.here hx rfl (hb hby d11_6) rfl (l' := #[.val (.ref a1), .val (.int z2)]) rfl ?_
    exact kt
  have lp4 : ∀ (k : Nat) (j : Nat) (z : Int32) (Tp4 : State) (lc4 : List Loc), (N < j + k) → (j ≤ N) → (Idx N (fun j => C j = (37 : Int32)) j z) → (∀ t, t < j → ¬ Bde N C t) → Stand p l e ({ frames := 9, cells := 0, slots := 0, locals := 177 } : Room) s m #[(.ref a1)] below meth c Tp4 lc4 0 0 → Tp4.heap = h0 → Fr n0 lc4 → (∀ tg, Steps p.tables e below (Tp4.setTop (mkF m 7 #[.val (.ref a1), .val (.int z)] [])) tg → Steps p.tables e below (s₁.setTop (entryFrame m #[(.ref a1)] 2)) tg) → False := by
    intro k
    induction k with
    | zero =>
      intro j z Tp4 lc4 hk hj hz hno
      intros; exfalso; omega
    | succ k ih =>
      intro j z Tp4 lc4 hk hj hz hno Xp4 ep4 Np4 pp4
      rcases hz with ⟨rfl, hz2⟩ | ⟨t, rfl, ht1, ht2, ht3, ht4⟩
      · -- none
        have st5 : ∀ tg, Steps p.tables e below (Tp4.setTop (mkF m 35 #[.val (.ref a1), .val (.int (-1 : Int32))] [(.int (0 : Int32))])) tg → Steps p.tables e below (Tp4.setTop (mkF m 7 #[.val (.ref a1), .val (.int (-1 : Int32))] [])) tg := by
          intro tg kt
          refine XS.iloadN Xp4.here hx rfl (hb hby d11_7) rfl ?_
          refine XS.ifYes Xp4.here hx rfl (pc0 := 8) (pc' := 34) rfl (hb hby d11_8) rfl (XT.i0_lt_t (by decide)) (by decide) (by decide) ?_
          refine XS.iconst Xp4.here hx rfl (hb hby d11_34) ?_
          exact kt
        obtain ⟨fs, hr, hrun, hended, hW, hsame⟩ := Xp4.leave (v := some (.int (0 : Int32))) (fun h => by rw [Bd.returns] at h; cases h)
        refine hG ⟨_, _, pp4 _ ?_, hrun, hended, _, _, rfl, ?_, ⟨_, rfl⟩, hW, hsame.mono (by decide) (by decide)⟩
        · refine st5 _ ?_
          show Steps p.tables e below (Tp4.setTop (mkF m 35 #[.val (.ref a1), .val (.int (-1 : Int32))] [(.int (0 : Int32))])) _
          exact retN Xp4 hx (t := .boolean) Bd.returns (by simp) (hb hby d11_35) hr
        · show Q11 Z a1 N C wc fm h0 n0 _ Tp4.heap _
          rw [ep4]
          exact ⟨_, rfl, Np4, rfl, Or.inr ⟨rfl, own_hb_end hno hz2⟩⟩
      · -- one at t
        have hnn : ¬ ((Int32.ofNat t) < 0) := own_nn (by omega)
        have st6 : ∀ tg, Steps p.tables e below (Tp4.setTop (mkF m 13 #[.val (.ref a1), .val (.int (Int32.ofNat t))] [(.int (Int32.ofNat t)), (.ref a1)])) tg → Steps p.tables e below (Tp4.setTop (mkF m 7 #[.val (.ref a1), .val (.int (Int32.ofNat t))] [])) tg := by
          intro tg kt
          refine XS.iloadN Xp4.here hx rfl (hb hby d11_7) rfl ?_
          refine XS.ifNo Xp4.here hx rfl (hb hby d11_8) rfl (XT.i0_lt_f hnn) ?_
          refine XS.aloadN Xp4.here hx rfl (hb hby d11_11) rfl rfl ?_
          refine XS.iloadN Xp4.here hx rfl (hb hby d11_12) rfl ?_
          exact kt
        obtain ⟨_, _, ⟨T7, L7, k7, n7⟩, -, X7, ⟨Lc7, hQ7, l7, y7, z7⟩, st7⟩ := Jvm.LawKit.callS Xp4 hx (y := (⟨"com/example/grantline/grantline/PercentEncoding", "encodedByte", "(Ljava/lang/String;I)I"⟩ : MethodName)) hown (mvT hZ (hw _ (List.mem_of_getElem? (i := 105) rfl))) (mvT hZ (hw _ (List.mem_of_getElem? (i := 106) rfl))) (mvT hZ (hw _ (List.mem_of_getElem? (i := 57) rfl))) (mvT hZ (hw _ (List.mem_of_getElem? (i := 107) rfl))) (by decide) (backOf (W := 0) (rm24 l Z a0 hw [] a1 N C t wc fm h0 n0 Z0 OLD S_c hwc hfm S_f S_a S_h S_l hN (by omega) HS) hZ (hw _ (List.mem_of_getElem? (i := 107) rfl)) (hw _ (List.mem_of_getElem? (i := 57) rfl)) (by decide) (by decide)) (g := (mkF m 13 #[.val (.ref a1), .val (.int (Int32.ofNat t))] [(.int (Int32.ofNat t)), (.ref a1)])) rfl (by rw [hml]; rfl) (argsL := [(.ref a1), (.int (Int32.ofNat t))]) (rest := []) (lenOf pd_15 rfl) rfl (by show 2 * 0 + _ ≤ _; exact Nat.le_of_eq rfl) (hb hby d11_13) (fun _ _ => ⟨rfl, ep4, (by decide : 0 + 0 ≤ _), (by decide : 0 + 0 ≤ _)⟩)
        dsimp only [Pt.U, Pt.locs, Pt.cells, Pt.slots] at X7 l7 y7 z7 st7 hQ7
        subst l7 y7 z7
        obtain ⟨z7, rfl, N7q, e7, Pz7⟩ := hQ7
        have N7 := Fr.app Np4 N7q
        by_cases hc16_8 : z7 < 0
        · -- pc 16: z7 < 0
          have st9 : ∀ tg, Steps p.tables e below (T7.setTop (mkF m 20 #[.val (.ref a1), .val (.int (Int32.ofNat t))] [(.int (1 : Int32))])) tg → Steps p.tables e below (T7.setTop (mkF m 16 #[.val (.ref a1), .val (.int (Int32.ofNat t))] [(.int z7)])) tg := by
            intro tg kt
            refine XS.ifNo X7.here hx rfl (hb hby d11_16) rfl (XT.i0_ge_f hc16_8) ?_
            refine XS.iconst X7.here hx rfl (hb hby d11_19) ?_
            exact kt
          obtain ⟨fs, hr, hrun, hended, hW, hsame⟩ := X7.leave (v := some (.int (1 : Int32))) (fun h => by rw [Bd.returns] at h; cases h)
          refine hG ⟨_, _, pp4 _ ?_, hrun, hended, _, _, rfl, ?_, ⟨_, rfl⟩, hW, hsame.mono (by decide) (by decide)⟩
          · refine st6 _ ?_
            show Steps p.tables e below (Tp4.setTop (mkF m 13 #[.val (.ref a1), .val (.int (Int32.ofNat t))] [(.int (Int32.ofNat t)), (.ref a1)])) _
            refine st7 _ ?_
            refine st9 _ ?_
            show Steps p.tables e below (T7.setTop (mkF m 20 #[.val (.ref a1), .val (.int (Int32.ofNat t))] [(.int (1 : Int32))])) _
            exact retN X7 hx (t := .boolean) Bd.returns (by simp) (hb hby d11_20) hr
          · show Q11 Z a1 N C wc fm h0 n0 _ T7.heap _
            rw [e7]
            exact ⟨_, rfl, N7, rfl, Or.inl ⟨rfl, t, ht2, ht3, own_en_bad Pz7 hc16_8⟩⟩
        · -- pc 16: not z7 < 0
          have st10 : ∀ tg, Steps p.tables e below (T7.setTop (mkF m 27 #[.val (.ref a1), .val (.int (Int32.ofNat t))] [(.int (Int32.ofNat (t + 1))), (.int (37 : Int32)), (.ref a1)])) tg → Steps p.tables e below (T7.setTop (mkF m 16 #[.val (.ref a1), .val (.int (Int32.ofNat t))] [(.int z7)])) tg := by
            intro tg kt
            refine XS.ifYes X7.here hx rfl (pc0 := 16) (pc' := 21) rfl (hb hby d11_16) rfl (XT.i0_ge_t hc16_8) (by decide) (by decide) ?_
            refine XS.aloadN X7.here hx rfl (hb hby d11_21) rfl rfl ?_
            refine XS.bipush X7.here hx rfl (hb hby d11_22) ?_
            refine XS.iloadN X7.here hx rfl (hb hby d11_24) rfl ?_
            show Steps p.tables e below (T7.setTop (mkF m 25 #[.val (.ref a1), .val (.int (Int32.ofNat t))] [(.int (Int32.ofNat t)), (.int (37 : Int32)), (.ref a1)])) tg
            refine XS.iconst X7.here hx rfl (hb hby d11_25) ?_
            refine XS.iadd X7.here hx rfl (hb hby d11_26) rfl ?_
            show Steps p.tables e below (T7.setTop (mkF m 27 #[.val (.ref a1), .val (.int (Int32.ofNat t))] [(.int (Int32.ofNat t + (1 : Int32))), (.int (37 : Int32)), (.ref a1)])) tg
            rw [show (Int32.ofNat t + (1 : Int32)) = Int32.ofNat (t + 1) from own_addn _ _]
            exact kt
          obtain ⟨cq11, kq11, q11a, q11b, q11c⟩ := isOf hZ e7 (StrF.exa HS)
          obtain ⟨_, _, ⟨T11, L11, k11, n11⟩, -, X11, ⟨Lc11, hQ11, l11, y11, z11⟩, st11⟩ := X7.virtualBack hx (y := (⟨"java/lang/String", "indexOf", "(II)I"⟩ : MethodName)) (z := (⟨"java/lang/String", "indexOf", "(II)I"⟩ : MethodName)) hown (mvT hZ (hw _ (List.mem_of_getElem? (i := 166) rfl))) (mvT hZ (hw _ (List.mem_of_getElem? (i := 65) rfl))) (notFace_of_selects (args := #[]) (mvT hZ (hw _ (List.mem_of_getElem? (i := 67) rfl)))) (mvT hZ (hw _ (List.mem_of_getElem? (i := 67) rfl))) (mvT hZ (hw _ (List.mem_of_getElem? (i := 66) rfl))) (by decide) (backOf (W := 0) (rm13c l Z a0 hw [] a1 N C (t + 1) wc fm h0 n0 Z0 OLD S_c hwc hfm S_f S_a S_h S_l hN (by omega) HS) hZ (hw _ (List.mem_of_getElem? (i := 68) rfl)) (hw _ (List.mem_of_getElem? (i := 8) rfl)) (by decide) (by decide)) q11a q11c (g := (mkF m 27 #[.val (.ref a1), .val (.int (Int32.ofNat t))] [(.int (Int32.ofNat (t + 1))), (.int (37 : Int32)), (.ref a1)])) rfl (by rw [hml]; rfl) (Steps.refl _) (argsL := [(.int (37 : Int32)), (.int (Int32.ofNat (t + 1)))]) (rest := []) (lenOf pd_9 rfl) rfl (by show 2 * 0 + _ ≤ _; exact Nat.le_of_eq rfl) (hb hby d11_27) (fun _ _ => ⟨rfl, e7, (by decide : 0 + 0 ≤ _), (by decide : 0 + 0 ≤ _)⟩)
          dsimp only [Pt.U, Pt.locs, Pt.cells, Pt.slots] at X11 l11 y11 z11 st11 hQ11
          subst l11 y11 z11
          obtain ⟨z11, rfl, N11q, e11, Pz11⟩ := hQ11
          have N11 := Fr.app N7 N11q
          have st12 : ∀ tg, Steps p.tables e below (T11.setTop (mkF m 7 #[.val (.ref a1), .val (.int z11)] [])) tg → Steps p.tables e below (T11.setTop (mkF m 30 #[.val (.ref a1), .val (.int (Int32.ofNat t))] [(.int z11)])) tg := by
            intro tg kt
            refine XS.istoreN X11.here hx rfl (hb hby d11_30) rfl (l' := #[.val (.ref a1), .val (.int z11)]) rfl ?_
            refine XS.goto X11.here hx rfl (pc0 := 31) (pc' := 7) rfl (hb hby d11_31) (by decide) (by decide) ?_
            exact kt
          refine ih (t + 1) z11 _ _ (by omega) (by omega) Pz11 (own_hb_step hno ht4 Pz7 hc16_8) X11 e11 N11 (fun tg kt => ?_)
          refine pp4 _ ?_
          refine st6 _ ?_
          show Steps p.tables e below (Tp4.setTop (mkF m 13 #[.val (.ref a1), .val (.int (Int32.ofNat t))] [(.int (Int32.ofNat t)), (.ref a1)])) _
          refine st7 _ ?_
          refine st10 _ ?_
          show Steps p.tables e below (T7.setTop (mkF m 27 #[.val (.ref a1), .val (.int (Int32.ofNat t))] [(.int (Int32.ofNat (t + 1))), (.int (37 : Int32)), (.ref a1)])) _
          refine st11.trans ?_
          refine st12 _ ?_
          exact kt
  refine lp4 (N + 1) 0 z2 _ _ (by omega) (Nat.zero_le _) Pz2 (fun t h => absurd h (Nat.not_lt_zero _)) X2 e2 N2 (fun tg kt => ?_)
  refine pre0 _ ?_
  refine st1 _ ?_
  show Steps p.tables e below (s₁.setTop (mkF m 3 #[.val (.ref a1), .unset] [(.int (37 : Int32)), (.ref a1)])) _
  refine st2.trans ?_
  refine st3 _ ?_
  exact kt
theorem d40_0 : decode method_4_code 0 = .ok (.iload_n 0, 1) := by decide +kernel
theorem d40_1 : decode method_4_code 1 = .ok (.bipush 48, 2) := by decide +kernel
theorem d40_3 : decode method_4_code 3 = .ok (.if_icmp .lt 11, 3) := by decide +kernel
theorem d40_6 : decode method_4_code 6 = .ok (.iload_n 0, 1) := by decide +kernel
theorem d40_7 : decode method_4_code 7 = .ok (.bipush 57, 2) := by decide +kernel
theorem d40_9 : decode method_4_code 9 = .ok (.if_icmp .gt 5, 3) := by decide +kernel
theorem d40_12 : decode method_4_code 12 = .ok (.iconst 1, 1) := by decide +kernel
theorem d40_13 : decode method_4_code 13 = .ok (.ireturn, 1) := by decide +kernel
theorem d40_14 : decode method_4_code 14 = .ok (.iload_n 0, 1) := by decide +kernel
theorem d40_15 : decode method_4_code 15 = .ok (.bipush 97, 2) := by decide +kernel
theorem d40_17 : decode method_4_code 17 = .ok (.if_icmp .lt 11, 3) := by decide +kernel
theorem d40_20 : decode method_4_code 20 = .ok (.iload_n 0, 1) := by decide +kernel
theorem d40_21 : decode method_4_code 21 = .ok (.bipush 102, 2) := by decide +kernel
theorem d40_23 : decode method_4_code 23 = .ok (.if_icmp .gt 5, 3) := by decide +kernel
theorem d40_26 : decode method_4_code 26 = .ok (.iconst 1, 1) := by decide +kernel
theorem d40_27 : decode method_4_code 27 = .ok (.ireturn, 1) := by decide +kernel
theorem d40_28 : decode method_4_code 28 = .ok (.iload_n 0, 1) := by decide +kernel
theorem d40_29 : decode method_4_code 29 = .ok (.bipush 65, 2) := by decide +kernel
theorem d40_31 : decode method_4_code 31 = .ok (.if_icmp .lt 13, 3) := by decide +kernel
theorem d40_34 : decode method_4_code 34 = .ok (.iload_n 0, 1) := by decide +kernel
theorem d40_35 : decode method_4_code 35 = .ok (.bipush 70, 2) := by decide +kernel
theorem d40_37 : decode method_4_code 37 = .ok (.if_icmp .gt 7, 3) := by decide +kernel
theorem d40_40 : decode method_4_code 40 = .ok (.iconst 1, 1) := by decide +kernel
theorem d40_41 : decode method_4_code 41 = .ok (.goto 4, 3) := by decide +kernel
theorem d40_44 : decode method_4_code 44 = .ok (.iconst 0, 1) := by decide +kernel
theorem d40_45 : decode method_4_code 45 = .ok (.ireturn, 1) := by decide +kernel
theorem pn_40 : plainName "com/example/grantline/grantline/PercentEncodingHasBadEscapePinLaw" = true := by first | (simp [plainName, overriddenIn]; done) | decide +kernel
theorem ef_40h (m : MethodId) (p1 : Int32) : entryFrame m #[(.int p1)] 1 = mkF m 0 #[.val (.int p1)] [] := by first | (simp [entryFrame, mkF, argsToLocals, Value.category]; done) | rfl
def Q40h (Z : State) (p1 : Int32) (h0 : Heap) (n0 : Nat) (v : Option Value) (h : Heap) (L : List Loc) : Prop := ∃ z : Int32, v = some (.int z) ∧ Fr n0 L ∧ h = h0 ∧ ((z = 1 ∧ Hex p1) ∨ (z = 0 ∧ ¬ Hex p1))
set_option maxRecDepth 65536 in
set_option maxHeartbeats 40000000 in
theorem rm40h (l : Launch) (Z : State) (a0 : Array Value) (hw : ∀ d ∈ tables_1, d.before a0 Z = true) (ws : List Jvm.Cond) (p1 : Int32) (h0 : Heap) (n0 : Nat) (Z0 : n0 ≤ h0.size) :
    MetFree l (⟨"com/example/grantline/grantline/PercentEncodingHasBadEscapePinLaw", "isHex", "(C)Z"⟩ : MethodName) (head1 (Jvm.Cond.code (⟨"com/example/grantline/grantline/PercentEncodingHasBadEscapePinLaw", "isHex", "(C)Z"⟩ : MethodName) method_4_code 1 (some .boolean) :: ws) ({ frames := 0, cells := 0, slots := 0, locals := 0 } : Room)) (fun a U => a = #[(.int p1)] ∧ Z.Warmed39 U.vm ∧ U.heap = h0) (fun _ _ _ _ _ => True) (fun _ U oo U' => ∃ v L, oo = .returned v ∧ Q40h Z p1 h0 n0 v U'.heap L ∧ FrameEnd U oo U' L ({ frames := 0, cells := 0, slots := 0, locals := 0 } : Room).cells ({ frames := 0, cells := 0, slots := 0, locals := 0 } : Room).slots) := by
  refine MetFree.of_bodySF (plainFor_of_name pn_40) hisR ?_
  intro p e s m args below meth c s₁ Bd hml0 hP hK
  obtain ⟨rfl, hZ, hh⟩ := hP
  have hx := Bd.exec
  have hby := Bd.bytes
  have hml : c.maxLocals = 1 := hml0
  have hown : s.vm.findClass "com/example/grantline/grantline/PercentEncodingHasBadEscapePinLaw" = some m.cls := findClass_of_methodNamed Bd.named
  have hnm := (name_of_methodNamed Bd.named Bd.method).1
  have X0 : Stand p l e ({ frames := 0, cells := 0, slots := 0, locals := 0 } : Room) s m #[(.int p1)] below meth c s₁ [] 0 0 := Stand.of_body Bd
  have e0 : s₁.heap = h0 := by rw [← hh, Bd.state]; rfl
  have N0 := Fr.nil n0
  have K0 : Keep h0 h0 [] := Keep.refl _ _
  have pre0 : ∀ tg, Steps p.tables e below (s₁.setTop (mkF m 0 #[.val (.int p1)] [])) tg → Steps p.tables e below (s₁.setTop (entryFrame m #[(.int p1)] 1)) tg := fun tg k => castTop (ef_40h m p1) k
  have st2 : ∀ tg, Steps p.tables e below (s₁.setTop (mkF m 3 #[.val (.int p1)] [(.int (48 : Int32)), (.int p1)])) tg → Steps p.tables e below (s₁.setTop (mkF m 0 #[.val (.int p1)] [])) tg := by
    intro tg kt
    refine XS.iloadN X0.here hx rfl (hb hby d40_0) rfl ?_
    refine XS.bipush X0.here hx rfl (hb hby d40_1) ?_
    exact kt
  by_cases hc3_1 : p1 < (48 : Int32)
  · -- pc 3: p1 < (48 : Int32)
    have st4 : ∀ tg, Steps p.tables e below (s₁.setTop (mkF m 17 #[.val (.int p1)] [(.int (97 : Int32)), (.int p1)])) tg → Steps p.tables e below (s₁.setTop (mkF m 3 #[.val (.int p1)] [(.int (48 : Int32)), (.int p1)])) tg := by
      intro tg kt
      refine XS.icmpYes X0.here hx rfl (pc0 := 3) (pc' := 14) rfl (hb hby d40_3) rfl (XT.ii_lt_t hc3_1) (by decide) (by decide) ?_
      refine XS.iloadN X0.here hx rfl (hb hby d40_14) rfl ?_
      refine XS.bipush X0.here hx rfl (hb hby d40_15) ?_
      exact kt
    by_cases hc17_3 : p1 < (97 : Int32)
    · -- pc 17: p1 < (97 : Int32)
      have st6 : ∀ tg, Steps p.tables e below (s₁.setTop (mkF m 31 #[.val (.int p1)] [(.int (65 : Int32)), (.int p1)])) tg → Steps p.tables e below (s₁.setTop (mkF m 17 #[.val (.int p1)] [(.int (97 : Int32)), (.int p1)])) tg := by
        intro tg kt
        refine XS.icmpYes X0.here hx rfl (pc0 := 17) (pc' := 28) rfl (hb hby d40_17) rfl (XT.ii_lt_t hc17_3) (by decide) (by decide) ?_
        refine XS.iloadN X0.here hx rfl (hb hby d40_28) rfl ?_
        refine XS.bipush X0.here hx rfl (hb hby d40_29) ?_
        exact kt
      by_cases hc31_5 : p1 < (65 : Int32)
      · -- pc 31: p1 < (65 : Int32)
        have st7 : ∀ tg, Steps p.tables e below (s₁.setTop (mkF m 45 #[.val (.int p1)] [(.int (0 : Int32))])) tg → Steps p.tables e below (s₁.setTop (mkF m 31 #[.val (.int p1)] [(.int (65 : Int32)), (.int p1)])) tg := by
          intro tg kt
          refine XS.icmpYes X0.here hx rfl (pc0 := 31) (pc' := 44) rfl (hb hby d40_31) rfl (XT.ii_lt_t hc31_5) (by decide) (by decide) ?_
          refine XS.iconst X0.here hx rfl (hb hby d40_44) ?_
          exact kt
        obtain ⟨fs, hr, hrun, hended, hW, hsame⟩ := X0.leave (v := some (.int (0 : Int32))) (fun h => by rw [Bd.returns] at h; cases h)
        refine ⟨_, _, pre0 _ ?_, hrun, hended, _, _, rfl, ?_, ⟨_, rfl⟩, hW, hsame.mono (by decide) (by decide)⟩
        · refine st2 _ ?_
          refine st4 _ ?_
          refine st6 _ ?_
          refine st7 _ ?_
          show Steps p.tables e below (s₁.setTop (mkF m 45 #[.val (.int p1)] [(.int (0 : Int32))])) _
          exact retN X0 hx (t := .boolean) Bd.returns (by simp) (hb hby d40_45) hr
        · show Q40h Z p1 h0 n0 _ s₁.heap _
          rw [e0]
          exact ⟨_, rfl, N0, rfl, Or.inr ⟨rfl, own_hex_no (Or.inl hc3_1) (Or.inl hc17_3) (Or.inl hc31_5)⟩⟩
      · -- pc 31: not p1 < (65 : Int32)
        have st9 : ∀ tg, Steps p.tables e below (s₁.setTop (mkF m 37 #[.val (.int p1)] [(.int (70 : Int32)), (.int p1)])) tg → Steps p.tables e below (s₁.setTop (mkF m 31 #[.val (.int p1)] [(.int (65 : Int32)), (.int p1)])) tg := by
          intro tg kt
          refine XS.icmpNo X0.here hx rfl (hb hby d40_31) rfl (XT.ii_lt_f hc31_5) ?_
          refine XS.iloadN X0.here hx rfl (hb hby d40_34) rfl ?_
          refine XS.bipush X0.here hx rfl (hb hby d40_35) ?_
          exact kt
        by_cases hc37_8 : (70 : Int32) < p1
        · -- pc 37: (70 : Int32) < p1
          have st10 : ∀ tg, Steps p.tables e below (s₁.setTop (mkF m 45 #[.val (.int p1)] [(.int (0 : Int32))])) tg → Steps p.tables e below (s₁.setTop (mkF m 37 #[.val (.int p1)] [(.int (70 : Int32)), (.int p1)])) tg := by
            intro tg kt
            refine XS.icmpYes X0.here hx rfl (pc0 := 37) (pc' := 44) rfl (hb hby d40_37) rfl (XT.ii_gt_t hc37_8) (by decide) (by decide) ?_
            refine XS.iconst X0.here hx rfl (hb hby d40_44) ?_
            exact kt
          obtain ⟨fs, hr, hrun, hended, hW, hsame⟩ := X0.leave (v := some (.int (0 : Int32))) (fun h => by rw [Bd.returns] at h; cases h)
          refine ⟨_, _, pre0 _ ?_, hrun, hended, _, _, rfl, ?_, ⟨_, rfl⟩, hW, hsame.mono (by decide) (by decide)⟩
          · refine st2 _ ?_
            refine st4 _ ?_
            refine st6 _ ?_
            refine st9 _ ?_
            refine st10 _ ?_
            show Steps p.tables e below (s₁.setTop (mkF m 45 #[.val (.int p1)] [(.int (0 : Int32))])) _
            exact retN X0 hx (t := .boolean) Bd.returns (by simp) (hb hby d40_45) hr
          · show Q40h Z p1 h0 n0 _ s₁.heap _
            rw [e0]
            exact ⟨_, rfl, N0, rfl, Or.inr ⟨rfl, own_hex_no (Or.inl hc3_1) (Or.inl hc17_3) (Or.inr hc37_8)⟩⟩
        · -- pc 37: not (70 : Int32) < p1
          have st11 : ∀ tg, Steps p.tables e below (s₁.setTop (mkF m 45 #[.val (.int p1)] [(.int (1 : Int32))])) tg → Steps p.tables e below (s₁.setTop (mkF m 37 #[.val (.int p1)] [(.int (70 : Int32)), (.int p1)])) tg := by
            intro tg kt
            refine XS.icmpNo X0.here hx rfl (hb hby d40_37) rfl (XT.ii_gt_f hc37_8) ?_
            refine XS.iconst X0.here hx rfl (hb hby d40_40) ?_
            refine XS.goto X0.here hx rfl (pc0 := 41) (pc' := 45) rfl (hb hby d40_41) (by decide) (by decide) ?_
            exact kt
          obtain ⟨fs, hr, hrun, hended, hW, hsame⟩ := X0.leave (v := some (.int (1 : Int32))) (fun h => by rw [Bd.returns] at h; cases h)
          refine ⟨_, _, pre0 _ ?_, hrun, hended, _, _, rfl, ?_, ⟨_, rfl⟩, hW, hsame.mono (by decide) (by decide)⟩
          · refine st2 _ ?_
            refine st4 _ ?_
            refine st6 _ ?_
            refine st9 _ ?_
            refine st11 _ ?_
            show Steps p.tables e below (s₁.setTop (mkF m 45 #[.val (.int p1)] [(.int (1 : Int32))])) _
            exact retN X0 hx (t := .boolean) Bd.returns (by simp) (hb hby d40_45) hr
          · show Q40h Z p1 h0 n0 _ s₁.heap _
            rw [e0]
            exact ⟨_, rfl, N0, rfl, Or.inl ⟨rfl, own_hex_65 hc31_5 hc37_8⟩⟩
    · -- pc 17: not p1 < (97 : Int32)
      have st13 : ∀ tg, Steps p.tables e below (s₁.setTop (mkF m 23 #[.val (.int p1)] [(.int (102 : Int32)), (.int p1)])) tg → Steps p.tables e below (s₁.setTop (mkF m 17 #[.val (.int p1)] [(.int (97 : Int32)), (.int p1)])) tg := by
        intro tg kt
        refine XS.icmpNo X0.here hx rfl (hb hby d40_17) rfl (XT.ii_lt_f hc17_3) ?_
        refine XS.iloadN X0.here hx rfl (hb hby d40_20) rfl ?_
        refine XS.bipush X0.here hx rfl (hb hby d40_21) ?_
        exact kt
      by_cases hc23_12 : (102 : Int32) < p1
      · -- pc 23: (102 : Int32) < p1
        have st15 : ∀ tg, Steps p.tables e below (s₁.setTop (mkF m 31 #[.val (.int p1)] [(.int (65 : Int32)), (.int p1)])) tg → Steps p.tables e below (s₁.setTop (mkF m 23 #[.val (.int p1)] [(.int (102 : Int32)), (.int p1)])) tg := by
          intro tg kt
          refine XS.icmpYes X0.here hx rfl (pc0 := 23) (pc' := 28) rfl (hb hby d40_23) rfl (XT.ii_gt_t hc23_12) (by decide) (by decide) ?_
          refine XS.iloadN X0.here hx rfl (hb hby d40_28) rfl ?_
          refine XS.bipush X0.here hx rfl (hb hby d40_29) ?_
          exact kt
        by_cases hc31_14 : p1 < (65 : Int32)
        · -- pc 31: p1 < (65 : Int32)
          have st16 : ∀ tg, Steps p.tables e below (s₁.setTop (mkF m 45 #[.val (.int p1)] [(.int (0 : Int32))])) tg → Steps p.tables e below (s₁.setTop (mkF m 31 #[.val (.int p1)] [(.int (65 : Int32)), (.int p1)])) tg := by
            intro tg kt
            refine XS.icmpYes X0.here hx rfl (pc0 := 31) (pc' := 44) rfl (hb hby d40_31) rfl (XT.ii_lt_t hc31_14) (by decide) (by decide) ?_
            refine XS.iconst X0.here hx rfl (hb hby d40_44) ?_
            exact kt
          obtain ⟨fs, hr, hrun, hended, hW, hsame⟩ := X0.leave (v := some (.int (0 : Int32))) (fun h => by rw [Bd.returns] at h; cases h)
          refine ⟨_, _, pre0 _ ?_, hrun, hended, _, _, rfl, ?_, ⟨_, rfl⟩, hW, hsame.mono (by decide) (by decide)⟩
          · refine st2 _ ?_
            refine st4 _ ?_
            refine st13 _ ?_
            refine st15 _ ?_
            refine st16 _ ?_
            show Steps p.tables e below (s₁.setTop (mkF m 45 #[.val (.int p1)] [(.int (0 : Int32))])) _
            exact retN X0 hx (t := .boolean) Bd.returns (by simp) (hb hby d40_45) hr
          · show Q40h Z p1 h0 n0 _ s₁.heap _
            rw [e0]
            exact ⟨_, rfl, N0, rfl, Or.inr ⟨rfl, own_hex_no (Or.inl hc3_1) (Or.inr hc23_12) (Or.inl hc31_14)⟩⟩
        · -- pc 31: not p1 < (65 : Int32)
          have st18 : ∀ tg, Steps p.tables e below (s₁.setTop (mkF m 37 #[.val (.int p1)] [(.int (70 : Int32)), (.int p1)])) tg → Steps p.tables e below (s₁.setTop (mkF m 31 #[.val (.int p1)] [(.int (65 : Int32)), (.int p1)])) tg := by
            intro tg kt
            refine XS.icmpNo X0.here hx rfl (hb hby d40_31) rfl (XT.ii_lt_f hc31_14) ?_
            refine XS.iloadN X0.here hx rfl (hb hby d40_34) rfl ?_
            refine XS.bipush X0.here hx rfl (hb hby d40_35) ?_
            exact kt
          by_cases hc37_17 : (70 : Int32) < p1
          · -- pc 37: (70 : Int32) < p1
            have st19 : ∀ tg, Steps p.tables e below (s₁.setTop (mkF m 45 #[.val (.int p1)] [(.int (0 : Int32))])) tg → Steps p.tables e below (s₁.setTop (mkF m 37 #[.val (.int p1)] [(.int (70 : Int32)), (.int p1)])) tg := by
              intro tg kt
              refine XS.icmpYes X0.here hx rfl (pc0 := 37) (pc' := 44) rfl (hb hby d40_37) rfl (XT.ii_gt_t hc37_17) (by decide) (by decide) ?_
              refine XS.iconst X0.here hx rfl (hb hby d40_44) ?_
              exact kt
            obtain ⟨fs, hr, hrun, hended, hW, hsame⟩ := X0.leave (v := some (.int (0 : Int32))) (fun h => by rw [Bd.returns] at h; cases h)
            refine ⟨_, _, pre0 _ ?_, hrun, hended, _, _, rfl, ?_, ⟨_, rfl⟩, hW, hsame.mono (by decide) (by decide)⟩
            · refine st2 _ ?_
              refine st4 _ ?_
              refine st13 _ ?_
              refine st15 _ ?_
              refine st18 _ ?_
              refine st19 _ ?_
              show Steps p.tables e below (s₁.setTop (mkF m 45 #[.val (.int p1)] [(.int (0 : Int32))])) _
              exact retN X0 hx (t := .boolean) Bd.returns (by simp) (hb hby d40_45) hr
            · show Q40h Z p1 h0 n0 _ s₁.heap _
              rw [e0]
              exact ⟨_, rfl, N0, rfl, Or.inr ⟨rfl, own_hex_no (Or.inl hc3_1) (Or.inr hc23_12) (Or.inr hc37_17)⟩⟩
          · -- pc 37: not (70 : Int32) < p1
            have st20 : ∀ tg, Steps p.tables e below (s₁.setTop (mkF m 45 #[.val (.int p1)] [(.int (1 : Int32))])) tg → Steps p.tables e below (s₁.setTop (mkF m 37 #[.val (.int p1)] [(.int (70 : Int32)), (.int p1)])) tg := by
              intro tg kt
              refine XS.icmpNo X0.here hx rfl (hb hby d40_37) rfl (XT.ii_gt_f hc37_17) ?_
              refine XS.iconst X0.here hx rfl (hb hby d40_40) ?_
              refine XS.goto X0.here hx rfl (pc0 := 41) (pc' := 45) rfl (hb hby d40_41) (by decide) (by decide) ?_
              exact kt
            obtain ⟨fs, hr, hrun, hended, hW, hsame⟩ := X0.leave (v := some (.int (1 : Int32))) (fun h => by rw [Bd.returns] at h; cases h)
            refine ⟨_, _, pre0 _ ?_, hrun, hended, _, _, rfl, ?_, ⟨_, rfl⟩, hW, hsame.mono (by decide) (by decide)⟩
            · refine st2 _ ?_
              refine st4 _ ?_
              refine st13 _ ?_
              refine st15 _ ?_
              refine st18 _ ?_
              refine st20 _ ?_
              show Steps p.tables e below (s₁.setTop (mkF m 45 #[.val (.int p1)] [(.int (1 : Int32))])) _
              exact retN X0 hx (t := .boolean) Bd.returns (by simp) (hb hby d40_45) hr
            · show Q40h Z p1 h0 n0 _ s₁.heap _
              rw [e0]
              exact ⟨_, rfl, N0, rfl, Or.inl ⟨rfl, own_hex_65 hc31_14 hc37_17⟩⟩
      · -- pc 23: not (102 : Int32) < p1
        have st21 : ∀ tg, Steps p.tables e below (s₁.setTop (mkF m 27 #[.val (.int p1)] [(.int (1 : Int32))])) tg → Steps p.tables e below (s₁.setTop (mkF m 23 #[.val (.int p1)] [(.int (102 : Int32)), (.int p1)])) tg := by
          intro tg kt
          refine XS.icmpNo X0.here hx rfl (hb hby d40_23) rfl (XT.ii_gt_f hc23_12) ?_
          refine XS.iconst X0.here hx rfl (hb hby d40_26) ?_
          exact kt
        obtain ⟨fs, hr, hrun, hended, hW, hsame⟩ := X0.leave (v := some (.int (1 : Int32))) (fun h => by rw [Bd.returns] at h; cases h)
        refine ⟨_, _, pre0 _ ?_, hrun, hended, _, _, rfl, ?_, ⟨_, rfl⟩, hW, hsame.mono (by decide) (by decide)⟩
        · refine st2 _ ?_
          refine st4 _ ?_
          refine st13 _ ?_
          refine st21 _ ?_
          show Steps p.tables e below (s₁.setTop (mkF m 27 #[.val (.int p1)] [(.int (1 : Int32))])) _
          exact retN X0 hx (t := .boolean) Bd.returns (by simp) (hb hby d40_27) hr
        · show Q40h Z p1 h0 n0 _ s₁.heap _
          rw [e0]
          exact ⟨_, rfl, N0, rfl, Or.inl ⟨rfl, own_hex_97 hc17_3 hc23_12⟩⟩
  · -- pc 3: not p1 < (48 : Int32)
    have st23 : ∀ tg, Steps p.tables e below (s₁.setTop (mkF m 9 #[.val (.int p1)] [(.int (57 : Int32)), (.int p1)])) tg → Steps p.tables e below (s₁.setTop (mkF m 3 #[.val (.int p1)] [(.int (48 : Int32)), (.int p1)])) tg := by
      intro tg kt
      refine XS.icmpNo X0.here hx rfl (hb hby d40_3) rfl (XT.ii_lt_f hc3_1) ?_
      refine XS.iloadN X0.here hx rfl (hb hby d40_6) rfl ?_
      refine XS.bipush X0.here hx rfl (hb hby d40_7) ?_
      exact kt
    by_cases hc9_22 : (57 : Int32) < p1
    · -- pc 9: (57 : Int32) < p1
      have st25 : ∀ tg, Steps p.tables e below (s₁.setTop (mkF m 17 #[.val (.int p1)] [(.int (97 : Int32)), (.int p1)])) tg → Steps p.tables e below (s₁.setTop (mkF m 9 #[.val (.int p1)] [(.int (57 : Int32)), (.int p1)])) tg := by
        intro tg kt
        refine XS.icmpYes X0.here hx rfl (pc0 := 9) (pc' := 14) rfl (hb hby d40_9) rfl (XT.ii_gt_t hc9_22) (by decide) (by decide) ?_
        refine XS.iloadN X0.here hx rfl (hb hby d40_14) rfl ?_
        refine XS.bipush X0.here hx rfl (hb hby d40_15) ?_
        exact kt
      by_cases hc17_24 : p1 < (97 : Int32)
      · -- pc 17: p1 < (97 : Int32)
        have st27 : ∀ tg, Steps p.tables e below (s₁.setTop (mkF m 31 #[.val (.int p1)] [(.int (65 : Int32)), (.int p1)])) tg → Steps p.tables e below (s₁.setTop (mkF m 17 #[.val (.int p1)] [(.int (97 : Int32)), (.int p1)])) tg := by
          intro tg kt
          refine XS.icmpYes X0.here hx rfl (pc0 := 17) (pc' := 28) rfl (hb hby d40_17) rfl (XT.ii_lt_t hc17_24) (by decide) (by decide) ?_
          refine XS.iloadN X0.here hx rfl (hb hby d40_28) rfl ?_
          refine XS.bipush X0.here hx rfl (hb hby d40_29) ?_
          exact kt
        by_cases hc31_26 : p1 < (65 : Int32)
        · -- pc 31: p1 < (65 : Int32)
          have st28 : ∀ tg, Steps p.tables e below (s₁.setTop (mkF m 45 #[.val (.int p1)] [(.int (0 : Int32))])) tg → Steps p.tables e below (s₁.setTop (mkF m 31 #[.val (.int p1)] [(.int (65 : Int32)), (.int p1)])) tg := by
            intro tg kt
            refine XS.icmpYes X0.here hx rfl (pc0 := 31) (pc' := 44) rfl (hb hby d40_31) rfl (XT.ii_lt_t hc31_26) (by decide) (by decide) ?_
            refine XS.iconst X0.here hx rfl (hb hby d40_44) ?_
            exact kt
          obtain ⟨fs, hr, hrun, hended, hW, hsame⟩ := X0.leave (v := some (.int (0 : Int32))) (fun h => by rw [Bd.returns] at h; cases h)
          refine ⟨_, _, pre0 _ ?_, hrun, hended, _, _, rfl, ?_, ⟨_, rfl⟩, hW, hsame.mono (by decide) (by decide)⟩
          · refine st2 _ ?_
            refine st23 _ ?_
            refine st25 _ ?_
            refine st27 _ ?_
            refine st28 _ ?_
            show Steps p.tables e below (s₁.setTop (mkF m 45 #[.val (.int p1)] [(.int (0 : Int32))])) _
            exact retN X0 hx (t := .boolean) Bd.returns (by simp) (hb hby d40_45) hr
          · show Q40h Z p1 h0 n0 _ s₁.heap _
            rw [e0]
            exact ⟨_, rfl, N0, rfl, Or.inr ⟨rfl, own_hex_no (Or.inr hc9_22) (Or.inl hc17_24) (Or.inl hc31_26)⟩⟩
        · -- pc 31: not p1 < (65 : Int32)
          have st30 : ∀ tg, Steps p.tables e below (s₁.setTop (mkF m 37 #[.val (.int p1)] [(.int (70 : Int32)), (.int p1)])) tg → Steps p.tables e below (s₁.setTop (mkF m 31 #[.val (.int p1)] [(.int (65 : Int32)), (.int p1)])) tg := by
            intro tg kt
            refine XS.icmpNo X0.here hx rfl (hb hby d40_31) rfl (XT.ii_lt_f hc31_26) ?_
            refine XS.iloadN X0.here hx rfl (hb hby d40_34) rfl ?_
            refine XS.bipush X0.here hx rfl (hb hby d40_35) ?_
            exact kt
          by_cases hc37_29 : (70 : Int32) < p1
          · -- pc 37: (70 : Int32) < p1
            have st31 : ∀ tg, Steps p.tables e below (s₁.setTop (mkF m 45 #[.val (.int p1)] [(.int (0 : Int32))])) tg → Steps p.tables e below (s₁.setTop (mkF m 37 #[.val (.int p1)] [(.int (70 : Int32)), (.int p1)])) tg := by
              intro tg kt
              refine XS.icmpYes X0.here hx rfl (pc0 := 37) (pc' := 44) rfl (hb hby d40_37) rfl (XT.ii_gt_t hc37_29) (by decide) (by decide) ?_
              refine XS.iconst X0.here hx rfl (hb hby d40_44) ?_
              exact kt
            obtain ⟨fs, hr, hrun, hended, hW, hsame⟩ := X0.leave (v := some (.int (0 : Int32))) (fun h => by rw [Bd.returns] at h; cases h)
            refine ⟨_, _, pre0 _ ?_, hrun, hended, _, _, rfl, ?_, ⟨_, rfl⟩, hW, hsame.mono (by decide) (by decide)⟩
            · refine st2 _ ?_
              refine st23 _ ?_
              refine st25 _ ?_
              refine st27 _ ?_
              refine st30 _ ?_
              refine st31 _ ?_
              show Steps p.tables e below (s₁.setTop (mkF m 45 #[.val (.int p1)] [(.int (0 : Int32))])) _
              exact retN X0 hx (t := .boolean) Bd.returns (by simp) (hb hby d40_45) hr
            · show Q40h Z p1 h0 n0 _ s₁.heap _
              rw [e0]
              exact ⟨_, rfl, N0, rfl, Or.inr ⟨rfl, own_hex_no (Or.inr hc9_22) (Or.inl hc17_24) (Or.inr hc37_29)⟩⟩
          · -- pc 37: not (70 : Int32) < p1
            have st32 : ∀ tg, Steps p.tables e below (s₁.setTop (mkF m 45 #[.val (.int p1)] [(.int (1 : Int32))])) tg → Steps p.tables e below (s₁.setTop (mkF m 37 #[.val (.int p1)] [(.int (70 : Int32)), (.int p1)])) tg := by
              intro tg kt
              refine XS.icmpNo X0.here hx rfl (hb hby d40_37) rfl (XT.ii_gt_f hc37_29) ?_
              refine XS.iconst X0.here hx rfl (hb hby d40_40) ?_
              refine XS.goto X0.here hx rfl (pc0 := 41) (pc' := 45) rfl (hb hby d40_41) (by decide) (by decide) ?_
              exact kt
            obtain ⟨fs, hr, hrun, hended, hW, hsame⟩ := X0.leave (v := some (.int (1 : Int32))) (fun h => by rw [Bd.returns] at h; cases h)
            refine ⟨_, _, pre0 _ ?_, hrun, hended, _, _, rfl, ?_, ⟨_, rfl⟩, hW, hsame.mono (by decide) (by decide)⟩
            · refine st2 _ ?_
              refine st23 _ ?_
              refine st25 _ ?_
              refine st27 _ ?_
              refine st30 _ ?_
              refine st32 _ ?_
              show Steps p.tables e below (s₁.setTop (mkF m 45 #[.val (.int p1)] [(.int (1 : Int32))])) _
              exact retN X0 hx (t := .boolean) Bd.returns (by simp) (hb hby d40_45) hr
            · show Q40h Z p1 h0 n0 _ s₁.heap _
              rw [e0]
              exact ⟨_, rfl, N0, rfl, Or.inl ⟨rfl, own_hex_65 hc31_26 hc37_29⟩⟩
      · -- pc 17: not p1 < (97 : Int32)
        have st34 : ∀ tg, Steps p.tables e below (s₁.setTop (mkF m 23 #[.val (.int p1)] [(.int (102 : Int32)), (.int p1)])) tg → Steps p.tables e below (s₁.setTop (mkF m 17 #[.val (.int p1)] [(.int (97 : Int32)), (.int p1)])) tg := by
          intro tg kt
          refine XS.icmpNo X0.here hx rfl (hb hby d40_17) rfl (XT.ii_lt_f hc17_24) ?_
          refine XS.iloadN X0.here hx rfl (hb hby d40_20) rfl ?_
          refine XS.bipush X0.here hx rfl (hb hby d40_21) ?_
          exact kt
        by_cases hc23_33 : (102 : Int32) < p1
        · -- pc 23: (102 : Int32) < p1
          have st36 : ∀ tg, Steps p.tables e below (s₁.setTop (mkF m 31 #[.val (.int p1)] [(.int (65 : Int32)), (.int p1)])) tg → Steps p.tables e below (s₁.setTop (mkF m 23 #[.val (.int p1)] [(.int (102 : Int32)), (.int p1)])) tg := by
            intro tg kt
            refine XS.icmpYes X0.here hx rfl (pc0 := 23) (pc' := 28) rfl (hb hby d40_23) rfl (XT.ii_gt_t hc23_33) (by decide) (by decide) ?_
            refine XS.iloadN X0.here hx rfl (hb hby d40_28) rfl ?_
            refine XS.bipush X0.here hx rfl (hb hby d40_29) ?_
            exact kt
          by_cases hc31_35 : p1 < (65 : Int32)
          · -- pc 31: p1 < (65 : Int32)
            have st37 : ∀ tg, Steps p.tables e below (s₁.setTop (mkF m 45 #[.val (.int p1)] [(.int (0 : Int32))])) tg → Steps p.tables e below (s₁.setTop (mkF m 31 #[.val (.int p1)] [(.int (65 : Int32)), (.int p1)])) tg := by
              intro tg kt
              refine XS.icmpYes X0.here hx rfl (pc0 := 31) (pc' := 44) rfl (hb hby d40_31) rfl (XT.ii_lt_t hc31_35) (by decide) (by decide) ?_
              refine XS.iconst X0.here hx rfl (hb hby d40_44) ?_
              exact kt
            obtain ⟨fs, hr, hrun, hended, hW, hsame⟩ := X0.leave (v := some (.int (0 : Int32))) (fun h => by rw [Bd.returns] at h; cases h)
            refine ⟨_, _, pre0 _ ?_, hrun, hended, _, _, rfl, ?_, ⟨_, rfl⟩, hW, hsame.mono (by decide) (by decide)⟩
            · refine st2 _ ?_
              refine st23 _ ?_
              refine st25 _ ?_
              refine st34 _ ?_
              refine st36 _ ?_
              refine st37 _ ?_
              show Steps p.tables e below (s₁.setTop (mkF m 45 #[.val (.int p1)] [(.int (0 : Int32))])) _
              exact retN X0 hx (t := .boolean) Bd.returns (by simp) (hb hby d40_45) hr
            · show Q40h Z p1 h0 n0 _ s₁.heap _
              rw [e0]
              exact ⟨_, rfl, N0, rfl, Or.inr ⟨rfl, own_hex_no (Or.inr hc9_22) (Or.inr hc23_33) (Or.inl hc31_35)⟩⟩
          · -- pc 31: not p1 < (65 : Int32)
            have st39 : ∀ tg, Steps p.tables e below (s₁.setTop (mkF m 37 #[.val (.int p1)] [(.int (70 : Int32)), (.int p1)])) tg → Steps p.tables e below (s₁.setTop (mkF m 31 #[.val (.int p1)] [(.int (65 : Int32)), (.int p1)])) tg := by
              intro tg kt
              refine XS.icmpNo X0.here hx rfl (hb hby d40_31) rfl (XT.ii_lt_f hc31_35) ?_
              refine XS.iloadN X0.here hx rfl (hb hby d40_34) rfl ?_
              refine XS.bipush X0.here hx rfl (hb hby d40_35) ?_
              exact kt
            by_cases hc37_38 : (70 : Int32) < p1
            · -- pc 37: (70 : Int32) < p1
              have st40 : ∀ tg, Steps p.tables e below (s₁.setTop (mkF m 45 #[.val (.int p1)] [(.int (0 : Int32))])) tg → Steps p.tables e below (s₁.setTop (mkF m 37 #[.val (.int p1)] [(.int (70 : Int32)), (.int p1)])) tg := by
                intro tg kt
                refine XS.icmpYes X0.here hx rfl (pc0 := 37) (pc' := 44) rfl (hb hby d40_37) rfl (XT.ii_gt_t hc37_38) (by decide) (by decide) ?_
                refine XS.iconst X0.here hx rfl (hb hby d40_44) ?_
                exact kt
              obtain ⟨fs, hr, hrun, hended, hW, hsame⟩ := X0.leave (v := some (.int (0 : Int32))) (fun h => by rw [Bd.returns] at h; cases h)
              refine ⟨_, _, pre0 _ ?_, hrun, hended, _, _, rfl, ?_, ⟨_, rfl⟩, hW, hsame.mono (by decide) (by decide)⟩
              · refine st2 _ ?_
                refine st23 _ ?_
                refine st25 _ ?_
                refine st34 _ ?_
                refine st36 _ ?_
                refine st39 _ ?_
                refine st40 _ ?_
                show Steps p.tables e below (s₁.setTop (mkF m 45 #[.val (.int p1)] [(.int (0 : Int32))])) _
                exact retN X0 hx (t := .boolean) Bd.returns (by simp) (hb hby d40_45) hr
              · show Q40h Z p1 h0 n0 _ s₁.heap _
                rw [e0]
                exact ⟨_, rfl, N0, rfl, Or.inr ⟨rfl, own_hex_no (Or.inr hc9_22) (Or.inr hc23_33) (Or.inr hc37_38)⟩⟩
            · -- pc 37: not (70 : Int32) < p1
              have st41 : ∀ tg, Steps p.tables e below (s₁.setTop (mkF m 45 #[.val (.int p1)] [(.int (1 : Int32))])) tg → Steps p.tables e below (s₁.setTop (mkF m 37 #[.val (.int p1)] [(.int (70 : Int32)), (.int p1)])) tg := by
                intro tg kt
                refine XS.icmpNo X0.here hx rfl (hb hby d40_37) rfl (XT.ii_gt_f hc37_38) ?_
                refine XS.iconst X0.here hx rfl (hb hby d40_40) ?_
                refine XS.goto X0.here hx rfl (pc0 := 41) (pc' := 45) rfl (hb hby d40_41) (by decide) (by decide) ?_
                exact kt
              obtain ⟨fs, hr, hrun, hended, hW, hsame⟩ := X0.leave (v := some (.int (1 : Int32))) (fun h => by rw [Bd.returns] at h; cases h)
              refine ⟨_, _, pre0 _ ?_, hrun, hended, _, _, rfl, ?_, ⟨_, rfl⟩, hW, hsame.mono (by decide) (by decide)⟩
              · refine st2 _ ?_
                refine st23 _ ?_
                refine st25 _ ?_
                refine st34 _ ?_
                refine st36 _ ?_
                refine st39 _ ?_
                refine st41 _ ?_
                show Steps p.tables e below (s₁.setTop (mkF m 45 #[.val (.int p1)] [(.int (1 : Int32))])) _
                exact retN X0 hx (t := .boolean) Bd.returns (by simp) (hb hby d40_45) hr
              · show Q40h Z p1 h0 n0 _ s₁.heap _
                rw [e0]
                exact ⟨_, rfl, N0, rfl, Or.inl ⟨rfl, own_hex_65 hc31_35 hc37_38⟩⟩
        · -- pc 23: not (102 : Int32) < p1
          have st42 : ∀ tg, Steps p.tables e below (s₁.setTop (mkF m 27 #[.val (.int p1)] [(.int (1 : Int32))])) tg → Steps p.tables e below (s₁.setTop (mkF m 23 #[.val (.int p1)] [(.int (102 : Int32)), (.int p1)])) tg := by
            intro tg kt
            refine XS.icmpNo X0.here hx rfl (hb hby d40_23) rfl (XT.ii_gt_f hc23_33) ?_
            refine XS.iconst X0.here hx rfl (hb hby d40_26) ?_
            exact kt
          obtain ⟨fs, hr, hrun, hended, hW, hsame⟩ := X0.leave (v := some (.int (1 : Int32))) (fun h => by rw [Bd.returns] at h; cases h)
          refine ⟨_, _, pre0 _ ?_, hrun, hended, _, _, rfl, ?_, ⟨_, rfl⟩, hW, hsame.mono (by decide) (by decide)⟩
          · refine st2 _ ?_
            refine st23 _ ?_
            refine st25 _ ?_
            refine st34 _ ?_
            refine st42 _ ?_
            show Steps p.tables e below (s₁.setTop (mkF m 27 #[.val (.int p1)] [(.int (1 : Int32))])) _
            exact retN X0 hx (t := .boolean) Bd.returns (by simp) (hb hby d40_27) hr
          · show Q40h Z p1 h0 n0 _ s₁.heap _
            rw [e0]
            exact ⟨_, rfl, N0, rfl, Or.inl ⟨rfl, own_hex_97 hc17_24 hc23_33⟩⟩
    · -- pc 9: not (57 : Int32) < p1
      have st43 : ∀ tg, Steps p.tables e below (s₁.setTop (mkF m 13 #[.val (.int p1)] [(.int (1 : Int32))])) tg → Steps p.tables e below (s₁.setTop (mkF m 9 #[.val (.int p1)] [(.int (57 : Int32)), (.int p1)])) tg := by
        intro tg kt
        refine XS.icmpNo X0.here hx rfl (hb hby d40_9) rfl (XT.ii_gt_f hc9_22) ?_
        refine XS.iconst X0.here hx rfl (hb hby d40_12) ?_
        exact kt
      obtain ⟨fs, hr, hrun, hended, hW, hsame⟩ := X0.leave (v := some (.int (1 : Int32))) (fun h => by rw [Bd.returns] at h; cases h)
      refine ⟨_, _, pre0 _ ?_, hrun, hended, _, _, rfl, ?_, ⟨_, rfl⟩, hW, hsame.mono (by decide) (by decide)⟩
      · refine st2 _ ?_
        refine st23 _ ?_
        refine st43 _ ?_
        show Steps p.tables e below (s₁.setTop (mkF m 13 #[.val (.int p1)] [(.int (1 : Int32))])) _
        exact retN X0 hx (t := .boolean) Bd.returns (by simp) (hb hby d40_13) hr
      · show Q40h Z p1 h0 n0 _ s₁.heap _
        rw [e0]
        exact ⟨_, rfl, N0, rfl, Or.inl ⟨rfl, own_hex_48 hc3_1 hc9_22⟩⟩
theorem d10_0 : decode method_5_code 0 = .ok (.iload_n 2, 1) := by decide +kernel
theorem d10_1 : decode method_5_code 1 = .ok (.iload_n 1, 1) := by decide +kernel
theorem d10_2 : decode method_5_code 2 = .ok (.if_icmp .lt 5, 3) := by decide +kernel
theorem d10_5 : decode method_5_code 5 = .ok (.iconst 0, 1) := by decide +kernel
theorem d10_6 : decode method_5_code 6 = .ok (.ireturn, 1) := by decide +kernel
theorem d10_7 : decode method_5_code 7 = .ok (.aload_n 0, 1) := by decide +kernel
theorem d10_8 : decode method_5_code 8 = .ok (.iload_n 2, 1) := by decide +kernel
theorem d10_9 : decode method_5_code 9 = .ok (.caload, 1) := by decide +kernel
theorem d10_10 : decode method_5_code 10 = .ok (.bipush 37, 2) := by decide +kernel
theorem d10_12 : decode method_5_code 12 = .ok (.if_icmp .eq 5, 3) := by decide +kernel
theorem d10_15 : decode method_5_code 15 = .ok (.iconst 0, 1) := by decide +kernel
theorem d10_16 : decode method_5_code 16 = .ok (.ireturn, 1) := by decide +kernel
theorem d10_17 : decode method_5_code 17 = .ok (.iload_n 2, 1) := by decide +kernel
theorem d10_18 : decode method_5_code 18 = .ok (.iconst 2, 1) := by decide +kernel
theorem d10_19 : decode method_5_code 19 = .ok (.iadd, 1) := by decide +kernel
theorem d10_20 : decode method_5_code 20 = .ok (.iload_n 1, 1) := by decide +kernel
theorem d10_21 : decode method_5_code 21 = .ok (.if_icmp .lt 5, 3) := by decide +kernel
theorem d10_24 : decode method_5_code 24 = .ok (.iconst 1, 1) := by decide +kernel
theorem d10_25 : decode method_5_code 25 = .ok (.ireturn, 1) := by decide +kernel
theorem d10_26 : decode method_5_code 26 = .ok (.aload_n 0, 1) := by decide +kernel
theorem d10_27 : decode method_5_code 27 = .ok (.iload_n 2, 1) := by decide +kernel
theorem d10_28 : decode method_5_code 28 = .ok (.iconst 1, 1) := by decide +kernel
theorem d10_29 : decode method_5_code 29 = .ok (.iadd, 1) := by decide +kernel
theorem d10_30 : decode method_5_code 30 = .ok (.caload, 1) := by decide +kernel
theorem d10_31 : decode method_5_code 31 = .ok (.invokestatic 35, 3) := by decide +kernel
theorem d10_34 : decode method_5_code 34 = .ok (.ifCond .eq 14, 3) := by decide +kernel
theorem d10_37 : decode method_5_code 37 = .ok (.aload_n 0, 1) := by decide +kernel
theorem d10_38 : decode method_5_code 38 = .ok (.iload_n 2, 1) := by decide +kernel
theorem d10_39 : decode method_5_code 39 = .ok (.iconst 2, 1) := by decide +kernel
theorem d10_40 : decode method_5_code 40 = .ok (.iadd, 1) := by decide +kernel
theorem d10_41 : decode method_5_code 41 = .ok (.caload, 1) := by decide +kernel
theorem d10_42 : decode method_5_code 42 = .ok (.invokestatic 35, 3) := by decide +kernel
theorem d10_45 : decode method_5_code 45 = .ok (.ifCond .ne 7, 3) := by decide +kernel
theorem d10_48 : decode method_5_code 48 = .ok (.iconst 1, 1) := by decide +kernel
theorem d10_49 : decode method_5_code 49 = .ok (.goto 4, 3) := by decide +kernel
theorem d10_52 : decode method_5_code 52 = .ok (.iconst 0, 1) := by decide +kernel
theorem d10_53 : decode method_5_code 53 = .ok (.ireturn, 1) := by decide +kernel
theorem pn_10 : plainName "com/example/grantline/grantline/PercentEncodingHasBadEscapePinLaw" = true := by first | (simp [plainName, overriddenIn]; done) | decide +kernel
theorem ef_10 (m : MethodId) (a1 : Addr) (y1 : Int32) (y2 : Int32) : entryFrame m #[(.ref a1), (.int y1), (.int y2)] 3 = mkF m 0 #[.val (.ref a1), .val (.int y1), .val (.int y2)] [] := by first | (simp [entryFrame, mkF, argsToLocals, Value.category]; done) | rfl
def Q10 (Z : State) (a1 : Addr) (N : Nat) (C : Nat → Int32) (i : Nat) (h0 : Heap) (n0 : Nat) (v : Option Value) (h : Heap) (L : List Loc) : Prop := ∃ z : Int32, v = some (.int z) ∧ Fr n0 L ∧ h = h0 ∧ BaS N C i z
set_option maxRecDepth 65536 in
set_option maxHeartbeats 40000000 in
theorem rm10 (l : Launch) (Z : State) (a0 : Array Value) (hw : ∀ d ∈ tables_1, d.before a0 Z = true) (ws : List Jvm.Cond) (a1 : Addr) (N : Nat) (C : Nat → Int32) (i : Nat) (h0 : Heap) (n0 : Nat) (Z0 : n0 ≤ h0.size) (hN : N ≤ 5) (hi5 : i ≤ 5) (FA : ArF Z h0 a1 .char 5 C) :
    MetFree l (⟨"com/example/grantline/grantline/PercentEncodingHasBadEscapePinLaw", "badAt", "([CII)Z"⟩ : MethodName) (head1 (Jvm.Cond.code (⟨"com/example/grantline/grantline/PercentEncodingHasBadEscapePinLaw", "badAt", "([CII)Z"⟩ : MethodName) method_5_code 3 (some .boolean) :: ws) ({ frames := 1, cells := 0, slots := 0, locals := 12 } : Room)) (fun a U => a = #[(.ref a1), (.int (Int32.ofNat N)), (.int (Int32.ofNat i))] ∧ Z.Warmed39 U.vm ∧ U.heap = h0) (fun _ _ _ _ _ => True) (fun _ U oo U' => ∃ v L, oo = .returned v ∧ Q10 Z a1 N C i h0 n0 v U'.heap L ∧ FrameEnd U oo U' L ({ frames := 1, cells := 0, slots := 0, locals := 12 } : Room).cells ({ frames := 1, cells := 0, slots := 0, locals := 12 } : Room).slots) := by
  refine MetFree.of_bodySF (plainFor_of_name pn_10) hisR ?_
  intro p e s m args below meth c s₁ Bd hml0 hP hK
  obtain ⟨rfl, hZ, hh⟩ := hP
  have hx := Bd.exec
  have hby := Bd.bytes
  have hml : c.maxLocals = 3 := hml0
  have hown : s.vm.findClass "com/example/grantline/grantline/PercentEncodingHasBadEscapePinLaw" = some m.cls := findClass_of_methodNamed Bd.named
  have hnm := (name_of_methodNamed Bd.named Bd.method).1
  have X0 : Stand p l e ({ frames := 1, cells := 0, slots := 0, locals := 12 } : Room) s m #[(.ref a1), (.int (Int32.ofNat N)), (.int (Int32.ofNat i))] below meth c s₁ [] 0 0 := Stand.of_body Bd
  have e0 : s₁.heap = h0 := by rw [← hh, Bd.state]; rfl
  have N0 := Fr.nil n0
  have K0 : Keep h0 h0 [] := Keep.refl _ _
  have pre0 : ∀ tg, Steps p.tables e below (s₁.setTop (mkF m 0 #[.val (.ref a1), .val (.int (Int32.ofNat N)), .val (.int (Int32.ofNat i))] [])) tg → Steps p.tables e below (s₁.setTop (entryFrame m #[(.ref a1), (.int (Int32.ofNat N)), (.int (Int32.ofNat i))] 3)) tg := fun tg k => castTop (ef_10 m a1 (Int32.ofNat N) (Int32.ofNat i)) k
  have st2 : ∀ tg, Steps p.tables e below (s₁.setTop (mkF m 2 #[.val (.ref a1), .val (.int (Int32.ofNat N)), .val (.int (Int32.ofNat i))] [(.int (Int32.ofNat N)), (.int (Int32.ofNat i))])) tg → Steps p.tables e below (s₁.setTop (mkF m 0 #[.val (.ref a1), .val (.int (Int32.ofNat N)), .val (.int (Int32.ofNat i))] [])) tg := by
    intro tg kt
    refine XS.iloadN X0.here hx rfl (hb hby d10_0) rfl ?_
    refine XS.iloadN X0.here hx rfl (hb hby d10_1) rfl ?_
    exact kt
  by_cases hc2_1 : (Int32.ofNat i) < (Int32.ofNat N)
  · -- pc 2: (Int32.ofNat i) < (Int32.ofNat N)
    have hc2_1n : i < N := (own_lt (by omega) (by omega)).mp hc2_1
    have st4 : ∀ tg, Steps p.tables e below (s₁.setTop (mkF m 9 #[.val (.ref a1), .val (.int (Int32.ofNat N)), .val (.int (Int32.ofNat i))] [(.int (Int32.ofNat i)), (.ref a1)])) tg → Steps p.tables e below (s₁.setTop (mkF m 2 #[.val (.ref a1), .val (.int (Int32.ofNat N)), .val (.int (Int32.ofNat i))] [(.int (Int32.ofNat N)), (.int (Int32.ofNat i))])) tg := by
      intro tg kt
      refine XS.icmpYes X0.here hx rfl (pc0 := 2) (pc' := 7) rfl (hb hby d10_2) rfl (XT.ii_lt_t hc2_1) (by decide) (by decide) ?_
      refine XS.aloadN X0.here hx rfl (hb hby d10_7) rfl rfl ?_
      refine XS.iloadN X0.here hx rfl (hb hby d10_8) rfl ?_
      exact kt
    obtain ⟨cl3, Ar3, Sa3, Ha3⟩ := id FA
    have hin3 : ¬ (Int32.ofNat i < 0 ∨ cl3.slots.size ≤ (Int32.ofNat i).toNatClampNeg) := own_in (by omega) (by omega) Sa3
    have hat3 : cl3.slots[(Int32.ofNat i).toNatClampNeg]? = some (.int (C i)) := own_at (by omega) (by omega) Ha3
    have st6 : ∀ tg, Steps p.tables e below (s₁.setTop (mkF m 12 #[.val (.ref a1), .val (.int (Int32.ofNat N)), .val (.int (Int32.ofNat i))] [(.int (37 : Int32)), (.int (C i))])) tg → Steps p.tables e below (s₁.setTop (mkF m 9 #[.val (.ref a1), .val (.int (Int32.ofNat N)), .val (.int (Int32.ofNat i))] [(.int (Int32.ofNat i)), (.ref a1)])) tg := by
      intro tg kt
      refine X0.caload hx (j := Int32.ofNat i) (v := (.int (C i))) (by rw [e0]; exact Ar3.1) (State.isArrayOf_alike hZ.alike Ar3.2.1) Ar3.2.2 hin3 hat3 (g := (mkF m 9 #[.val (.ref a1), .val (.int (Int32.ofNat N)), .val (.int (Int32.ofNat i))] [(.int (Int32.ofNat i)), (.ref a1)])) rfl rfl (hb hby d10_9) _ ?_
      refine XS.bipush X0.here hx rfl (hb hby d10_10) ?_
      exact kt
    by_cases hc12_5 : (C i) = (37 : Int32)
    · -- pc 12: (C i) = (37 : Int32)
      have st8 : ∀ tg, Steps p.tables e below (s₁.setTop (mkF m 21 #[.val (.ref a1), .val (.int (Int32.ofNat N)), .val (.int (Int32.ofNat i))] [(.int (Int32.ofNat N)), (.int (Int32.ofNat (i + 2)))])) tg → Steps p.tables e below (s₁.setTop (mkF m 12 #[.val (.ref a1), .val (.int (Int32.ofNat N)), .val (.int (Int32.ofNat i))] [(.int (37 : Int32)), (.int (C i))])) tg := by
        intro tg kt
        refine XS.icmpYes X0.here hx rfl (pc0 := 12) (pc' := 17) rfl (hb hby d10_12) rfl (XT.ii_eq_t hc12_5) (by decide) (by decide) ?_
        refine XS.iloadN X0.here hx rfl (hb hby d10_17) rfl ?_
        refine XS.iconst X0.here hx rfl (hb hby d10_18) ?_
        refine XS.iadd X0.here hx rfl (hb hby d10_19) rfl ?_
        show Steps p.tables e below (s₁.setTop (mkF m 20 #[.val (.ref a1), .val (.int (Int32.ofNat N)), .val (.int (Int32.ofNat i))] [(.int (Int32.ofNat i + (2 : Int32)))])) tg
        rw [show (Int32.ofNat i + (2 : Int32)) = Int32.ofNat (i + 2) from own_addn _ _]
        show Steps p.tables e below (s₁.setTop (mkF m 20 #[.val (.ref a1), .val (.int (Int32.ofNat N)), .val (.int (Int32.ofNat i))] [(.int (Int32.ofNat (i + 2)))])) tg
        refine XS.iloadN X0.here hx rfl (hb hby d10_20) rfl ?_
        exact kt
      by_cases hc21_7 : (Int32.ofNat (i + 2)) < (Int32.ofNat N)
      · -- pc 21: (Int32.ofNat (i + 2)) < (Int32.ofNat N)
        have hc21_7n : (i + 2) < N := (own_lt (by omega) (by omega)).mp hc21_7
        have st10 : ∀ tg, Steps p.tables e below (s₁.setTop (mkF m 30 #[.val (.ref a1), .val (.int (Int32.ofNat N)), .val (.int (Int32.ofNat i))] [(.int (Int32.ofNat (i + 1))), (.ref a1)])) tg → Steps p.tables e below (s₁.setTop (mkF m 21 #[.val (.ref a1), .val (.int (Int32.ofNat N)), .val (.int (Int32.ofNat i))] [(.int (Int32.ofNat N)), (.int (Int32.ofNat (i + 2)))])) tg := by
          intro tg kt
          refine XS.icmpYes X0.here hx rfl (pc0 := 21) (pc' := 26) rfl (hb hby d10_21) rfl (XT.ii_lt_t hc21_7) (by decide) (by decide) ?_
          refine XS.aloadN X0.here hx rfl (hb hby d10_26) rfl rfl ?_
          refine XS.iloadN X0.here hx rfl (hb hby d10_27) rfl ?_
          refine XS.iconst X0.here hx rfl (hb hby d10_28) ?_
          show Steps p.tables e below (s₁.setTop (mkF m 29 #[.val (.ref a1), .val (.int (Int32.ofNat N)), .val (.int (Int32.ofNat i))] [(.int (1 : Int32)), (.int (Int32.ofNat i)), (.ref a1)])) tg
          refine XS.iadd X0.here hx rfl (hb hby d10_29) rfl ?_
          show Steps p.tables e below (s₁.setTop (mkF m 30 #[.val (.ref a1), .val (.int (Int32.ofNat N)), .val (.int (Int32.ofNat i))] [(.int (Int32.ofNat i + (1 : Int32))), (.ref a1)])) tg
          rw [show (Int32.ofNat i + (1 : Int32)) = Int32.ofNat (i + 1) from own_addn _ _]
          exact kt
        obtain ⟨cl9, Ar9, Sa9, Ha9⟩ := id FA
        have hin9 : ¬ (Int32.ofNat (i + 1) < 0 ∨ cl9.slots.size ≤ (Int32.ofNat (i + 1)).toNatClampNeg) := own_in (by omega) (by omega) Sa9
        have hat9 : cl9.slots[(Int32.ofNat (i + 1)).toNatClampNeg]? = some (.int (C (i + 1))) := own_at (by omega) (by omega) Ha9
        have st11 : ∀ tg, Steps p.tables e below (s₁.setTop (mkF m 31 #[.val (.ref a1), .val (.int (Int32.ofNat N)), .val (.int (Int32.ofNat i))] [(.int (C (i + 1)))])) tg → Steps p.tables e below (s₁.setTop (mkF m 30 #[.val (.ref a1), .val (.int (Int32.ofNat N)), .val (.int (Int32.ofNat i))] [(.int (Int32.ofNat (i + 1))), (.ref a1)])) tg := by
          intro tg kt
          refine X0.caload hx (j := Int32.ofNat (i + 1)) (v := (.int (C (i + 1)))) (by rw [e0]; exact Ar9.1) (State.isArrayOf_alike hZ.alike Ar9.2.1) Ar9.2.2 hin9 hat9 (g := (mkF m 30 #[.val (.ref a1), .val (.int (Int32.ofNat N)), .val (.int (Int32.ofNat i))] [(.int (Int32.ofNat (i + 1))), (.ref a1)])) rfl rfl (hb hby d10_30) _ ?_
          exact kt
        obtain ⟨_, _, ⟨T12, L12, k12, n12⟩, -, X12, ⟨Lc12, hQ12, l12, y12, z12⟩, st12⟩ := Jvm.LawKit.callS X0 hx (y := (⟨"com/example/grantline/grantline/PercentEncodingHasBadEscapePinLaw", "isHex", "(C)Z"⟩ : MethodName)) hown (mvT hZ (hw _ (List.mem_of_getElem? (i := 163) rfl))) (mvT hZ (hw _ (List.mem_of_getElem? (i := 164) rfl))) (mvT hZ (hw _ (List.mem_of_getElem? (i := 4) rfl))) (mvT hZ (hw _ (List.mem_of_getElem? (i := 165) rfl))) (by decide) (backOf (W := 0) (rm40h l Z a0 hw [] (C (i + 1)) h0 n0 Z0) hZ (hw _ (List.mem_of_getElem? (i := 165) rfl)) (hw _ (List.mem_of_getElem? (i := 4) rfl)) (by decide) (by decide)) (g := (mkF m 31 #[.val (.ref a1), .val (.int (Int32.ofNat N)), .val (.int (Int32.ofNat i))] [(.int (C (i + 1)))])) rfl (by rw [hml]; rfl) (argsL := [(.int (C (i + 1)))]) (rest := []) (lenOf pd_17 rfl) rfl (by show 2 * 0 + _ ≤ _; exact Nat.le_of_eq rfl) (hb hby d10_31) (fun _ _ => ⟨rfl, e0, (by decide : 0 + 0 ≤ _), (by decide : 0 + 0 ≤ _)⟩)
        dsimp only [Pt.U, Pt.locs, Pt.cells, Pt.slots] at X12 l12 y12 z12 st12 hQ12
        subst l12 y12 z12
        obtain ⟨z12, rfl, N12q, e12, Pz12⟩ := hQ12
        have N12 := Fr.app N0 N12q
        by_cases hc34_13 : z12 = 0
        · -- pc 34: z12 = 0
          have st14 : ∀ tg, Steps p.tables e below (T12.setTop (mkF m 53 #[.val (.ref a1), .val (.int (Int32.ofNat N)), .val (.int (Int32.ofNat i))] [(.int (1 : Int32))])) tg → Steps p.tables e below (T12.setTop (mkF m 34 #[.val (.ref a1), .val (.int (Int32.ofNat N)), .val (.int (Int32.ofNat i))] [(.int z12)])) tg := by
            intro tg kt
            refine XS.ifYes X12.here hx rfl (pc0 := 34) (pc' := 48) rfl (hb hby d10_34) rfl (XT.i0_eq_t hc34_13) (by decide) (by decide) ?_
            refine XS.iconst X12.here hx rfl (hb hby d10_48) ?_
            refine XS.goto X12.here hx rfl (pc0 := 49) (pc' := 53) rfl (hb hby d10_49) (by decide) (by decide) ?_
            exact kt
          obtain ⟨fs, hr, hrun, hended, hW, hsame⟩ := X12.leave (v := some (.int (1 : Int32))) (fun h => by rw [Bd.returns] at h; cases h)
          refine ⟨_, _, pre0 _ ?_, hrun, hended, _, _, rfl, ?_, ⟨_, rfl⟩, hW, hsame.mono (by decide) (by decide)⟩
          · refine st2 _ ?_
            refine st4 _ ?_
            refine st6 _ ?_
            refine st8 _ ?_
            refine st10 _ ?_
            refine st11 _ ?_
            show Steps p.tables e below (s₁.setTop (mkF m 31 #[.val (.ref a1), .val (.int (Int32.ofNat N)), .val (.int (Int32.ofNat i))] [(.int (C (i + 1)))])) _
            refine st12 _ ?_
            refine st14 _ ?_
            show Steps p.tables e below (T12.setTop (mkF m 53 #[.val (.ref a1), .val (.int (Int32.ofNat N)), .val (.int (Int32.ofNat i))] [(.int (1 : Int32))])) _
            exact retN X12 hx (t := .boolean) Bd.returns (by simp) (hb hby d10_53) hr
          · show Q10 Z a1 N C i h0 n0 _ T12.heap _
            rw [e12]
            exact ⟨_, rfl, N12, rfl, Or.inl ⟨rfl, by omega, hc12_5, fun q => own_hx_z Pz12 hc34_13 q.1.2⟩⟩
        · -- pc 34: not z12 = 0
          have st16 : ∀ tg, Steps p.tables e below (T12.setTop (mkF m 41 #[.val (.ref a1), .val (.int (Int32.ofNat N)), .val (.int (Int32.ofNat i))] [(.int (Int32.ofNat (i + 2))), (.ref a1)])) tg → Steps p.tables e below (T12.setTop (mkF m 34 #[.val (.ref a1), .val (.int (Int32.ofNat N)), .val (.int (Int32.ofNat i))] [(.int z12)])) tg := by
            intro tg kt
            refine XS.ifNo X12.here hx rfl (hb hby d10_34) rfl (XT.i0_eq_f hc34_13) ?_
            refine XS.aloadN X12.here hx rfl (hb hby d10_37) rfl rfl ?_
            refine XS.iloadN X12.here hx rfl (hb hby d10_38) rfl ?_
            refine XS.iconst X12.here hx rfl (hb hby d10_39) ?_
            show Steps p.tables e below (T12.setTop (mkF m 40 #[.val (.ref a1), .val (.int (Int32.ofNat N)), .val (.int (Int32.ofNat i))] [(.int (2 : Int32)), (.int (Int32.ofNat i)), (.ref a1)])) tg
            refine XS.iadd X12.here hx rfl (hb hby d10_40) rfl ?_
            show Steps p.tables e below (T12.setTop (mkF m 41 #[.val (.ref a1), .val (.int (Int32.ofNat N)), .val (.int (Int32.ofNat i))] [(.int (Int32.ofNat i + (2 : Int32))), (.ref a1)])) tg
            rw [show (Int32.ofNat i + (2 : Int32)) = Int32.ofNat (i + 2) from own_addn _ _]
            exact kt
          obtain ⟨cl15, Ar15, Sa15, Ha15⟩ := id FA
          have hin15 : ¬ (Int32.ofNat (i + 2) < 0 ∨ cl15.slots.size ≤ (Int32.ofNat (i + 2)).toNatClampNeg) := own_in (by omega) (by omega) Sa15
          have hat15 : cl15.slots[(Int32.ofNat (i + 2)).toNatClampNeg]? = some (.int (C (i + 2))) := own_at (by omega) (by omega) Ha15
          have st17 : ∀ tg, Steps p.tables e below (T12.setTop (mkF m 42 #[.val (.ref a1), .val (.int (Int32.ofNat N)), .val (.int (Int32.ofNat i))] [(.int (C (i + 2)))])) tg → Steps p.tables e below (T12.setTop (mkF m 41 #[.val (.ref a1), .val (.int (Int32.ofNat N)), .val (.int (Int32.ofNat i))] [(.int (Int32.ofNat (i + 2))), (.ref a1)])) tg := by
            intro tg kt
            refine X12.caload hx (j := Int32.ofNat (i + 2)) (v := (.int (C (i + 2)))) (by rw [e12]; exact Ar15.1) (State.isArrayOf_alike hZ.alike Ar15.2.1) Ar15.2.2 hin15 hat15 (g := (mkF m 41 #[.val (.ref a1), .val (.int (Int32.ofNat N)), .val (.int (Int32.ofNat i))] [(.int (Int32.ofNat (i + 2))), (.ref a1)])) rfl rfl (hb hby d10_41) _ ?_
            exact kt
          obtain ⟨_, _, ⟨T18, L18, k18, n18⟩, -, X18, ⟨Lc18, hQ18, l18, y18, z18⟩, st18⟩ := Jvm.LawKit.callS X12 hx (y := (⟨"com/example/grantline/grantline/PercentEncodingHasBadEscapePinLaw", "isHex", "(C)Z"⟩ : MethodName)) hown (mvT hZ (hw _ (List.mem_of_getElem? (i := 163) rfl))) (mvT hZ (hw _ (List.mem_of_getElem? (i := 164) rfl))) (mvT hZ (hw _ (List.mem_of_getElem? (i := 4) rfl))) (mvT hZ (hw _ (List.mem_of_getElem? (i := 165) rfl))) (by decide) (backOf (W := 0) (rm40h l Z a0 hw [] (C (i + 2)) h0 n0 Z0) hZ (hw _ (List.mem_of_getElem? (i := 165) rfl)) (hw _ (List.mem_of_getElem? (i := 4) rfl)) (by decide) (by decide)) (g := (mkF m 42 #[.val (.ref a1), .val (.int (Int32.ofNat N)), .val (.int (Int32.ofNat i))] [(.int (C (i + 2)))])) rfl (by rw [hml]; rfl) (argsL := [(.int (C (i + 2)))]) (rest := []) (lenOf pd_17 rfl) rfl (by show 2 * 0 + _ ≤ _; exact Nat.le_of_eq rfl) (hb hby d10_42) (fun _ _ => ⟨rfl, e12, (by decide : 0 + 0 ≤ _), (by decide : 0 + 0 ≤ _)⟩)
          dsimp only [Pt.U, Pt.locs, Pt.cells, Pt.slots] at X18 l18 y18 z18 st18 hQ18
          subst l18 y18 z18
          obtain ⟨z18, rfl, N18q, e18, Pz18⟩ := hQ18
          have N18 := Fr.app N12 N18q
          by_cases hc45_19 : z18 = 0
          · -- pc 45: z18 = 0
            have st20 : ∀ tg, Steps p.tables e below (T18.setTop (mkF m 53 #[.val (.ref a1), .val (.int (Int32.ofNat N)), .val (.int (Int32.ofNat i))] [(.int (1 : Int32))])) tg → Steps p.tables e below (T18.setTop (mkF m 45 #[.val (.ref a1), .val (.int (Int32.ofNat N)), .val (.int (Int32.ofNat i))] [(.int z18)])) tg := by
              intro tg kt
              refine XS.ifNo X18.here hx rfl (hb hby d10_45) rfl (XT.i0_ne_f hc45_19) ?_
              refine XS.iconst X18.here hx rfl (hb hby d10_48) ?_
              refine XS.goto X18.here hx rfl (pc0 := 49) (pc' := 53) rfl (hb hby d10_49) (by decide) (by decide) ?_
              exact kt
            obtain ⟨fs, hr, hrun, hended, hW, hsame⟩ := X18.leave (v := some (.int (1 : Int32))) (fun h => by rw [Bd.returns] at h; cases h)
            refine ⟨_, _, pre0 _ ?_, hrun, hended, _, _, rfl, ?_, ⟨_, rfl⟩, hW, hsame.mono (by decide) (by decide)⟩
            · refine st2 _ ?_
              refine st4 _ ?_
              refine st6 _ ?_
              refine st8 _ ?_
              refine st10 _ ?_
              refine st11 _ ?_
              show Steps p.tables e below (s₁.setTop (mkF m 31 #[.val (.ref a1), .val (.int (Int32.ofNat N)), .val (.int (Int32.ofNat i))] [(.int (C (i + 1)))])) _
              refine st12 _ ?_
              refine st16 _ ?_
              refine st17 _ ?_
              show Steps p.tables e below (T12.setTop (mkF m 42 #[.val (.ref a1), .val (.int (Int32.ofNat N)), .val (.int (Int32.ofNat i))] [(.int (C (i + 2)))])) _
              refine st18 _ ?_
              refine st20 _ ?_
              show Steps p.tables e below (T18.setTop (mkF m 53 #[.val (.ref a1), .val (.int (Int32.ofNat N)), .val (.int (Int32.ofNat i))] [(.int (1 : Int32))])) _
              exact retN X18 hx (t := .boolean) Bd.returns (by simp) (hb hby d10_53) hr
            · show Q10 Z a1 N C i h0 n0 _ T18.heap _
              rw [e18]
              exact ⟨_, rfl, N18, rfl, Or.inl ⟨rfl, by omega, hc12_5, fun q => own_hx_z Pz18 hc45_19 q.2.2⟩⟩
          · -- pc 45: not z18 = 0
            have st21 : ∀ tg, Steps p.tables e below (T18.setTop (mkF m 53 #[.val (.ref a1), .val (.int (Int32.ofNat N)), .val (.int (Int32.ofNat i))] [(.int (0 : Int32))])) tg → Steps p.tables e below (T18.setTop (mkF m 45 #[.val (.ref a1), .val (.int (Int32.ofNat N)), .val (.int (Int32.ofNat i))] [(.int z18)])) tg := by
              intro tg kt
              refine XS.ifYes X18.here hx rfl (pc0 := 45) (pc' := 52) rfl (hb hby d10_45) rfl (XT.i0_ne_t hc45_19) (by decide) (by decide) ?_
              refine XS.iconst X18.here hx rfl (hb hby d10_52) ?_
              exact kt
            obtain ⟨fs, hr, hrun, hended, hW, hsame⟩ := X18.leave (v := some (.int (0 : Int32))) (fun h => by rw [Bd.returns] at h; cases h)
            refine ⟨_, _, pre0 _ ?_, hrun, hended, _, _, rfl, ?_, ⟨_, rfl⟩, hW, hsame.mono (by decide) (by decide)⟩
            · refine st2 _ ?_
              refine st4 _ ?_
              refine st6 _ ?_
              refine st8 _ ?_
              refine st10 _ ?_
              refine st11 _ ?_
              show Steps p.tables e below (s₁.setTop (mkF m 31 #[.val (.ref a1), .val (.int (Int32.ofNat N)), .val (.int (Int32.ofNat i))] [(.int (C (i + 1)))])) _
              refine st12 _ ?_
              refine st16 _ ?_
              refine st17 _ ?_
              show Steps p.tables e below (T12.setTop (mkF m 42 #[.val (.ref a1), .val (.int (Int32.ofNat N)), .val (.int (Int32.ofNat i))] [(.int (C (i + 2)))])) _
              refine st18 _ ?_
              refine st21 _ ?_
              show Steps p.tables e below (T18.setTop (mkF m 53 #[.val (.ref a1), .val (.int (Int32.ofNat N)), .val (.int (Int32.ofNat i))] [(.int (0 : Int32))])) _
              exact retN X18 hx (t := .boolean) Bd.returns (by simp) (hb hby d10_53) hr
            · show Q10 Z a1 N C i h0 n0 _ T18.heap _
              rw [e18]
              exact ⟨_, rfl, N18, rfl, Or.inr ⟨rfl, fun q => q.2.2 ⟨⟨by omega, own_hx_nz Pz12 hc34_13⟩, ⟨by omega, own_hx_nz Pz18 hc45_19⟩⟩⟩⟩
      · -- pc 21: not (Int32.ofNat (i + 2)) < (Int32.ofNat N)
        have hc21_7n : ¬ (i + 2) < N := fun q => hc21_7 ((own_lt (by omega) (by omega)).mpr q)
        have st22 : ∀ tg, Steps p.tables e below (s₁.setTop (mkF m 25 #[.val (.ref a1), .val (.int (Int32.ofNat N)), .val (.int (Int32.ofNat i))] [(.int (1 : Int32))])) tg → Steps p.tables e below (s₁.setTop (mkF m 21 #[.val (.ref a1), .val (.int (Int32.ofNat N)), .val (.int (Int32.ofNat i))] [(.int (Int32.ofNat N)), (.int (Int32.ofNat (i + 2)))])) tg := by
          intro tg kt
          refine XS.icmpNo X0.here hx rfl (hb hby d10_21) rfl (XT.ii_lt_f hc21_7) ?_
          refine XS.iconst X0.here hx rfl (hb hby d10_24) ?_
          exact kt
        obtain ⟨fs, hr, hrun, hended, hW, hsame⟩ := X0.leave (v := some (.int (1 : Int32))) (fun h => by rw [Bd.returns] at h; cases h)
        refine ⟨_, _, pre0 _ ?_, hrun, hended, _, _, rfl, ?_, ⟨_, rfl⟩, hW, hsame.mono (by decide) (by decide)⟩
        · refine st2 _ ?_
          refine st4 _ ?_
          refine st6 _ ?_
          refine st8 _ ?_
          refine st22 _ ?_
          show Steps p.tables e below (s₁.setTop (mkF m 25 #[.val (.ref a1), .val (.int (Int32.ofNat N)), .val (.int (Int32.ofNat i))] [(.int (1 : Int32))])) _
          exact retN X0 hx (t := .boolean) Bd.returns (by simp) (hb hby d10_25) hr
        · show Q10 Z a1 N C i h0 n0 _ s₁.heap _
          rw [e0]
          exact ⟨_, rfl, N0, rfl, Or.inl ⟨rfl, by omega, hc12_5, fun q => absurd q.2.1 (by omega)⟩⟩
    · -- pc 12: not (C i) = (37 : Int32)
      have st23 : ∀ tg, Steps p.tables e below (s₁.setTop (mkF m 16 #[.val (.ref a1), .val (.int (Int32.ofNat N)), .val (.int (Int32.ofNat i))] [(.int (0 : Int32))])) tg → Steps p.tables e below (s₁.setTop (mkF m 12 #[.val (.ref a1), .val (.int (Int32.ofNat N)), .val (.int (Int32.ofNat i))] [(.int (37 : Int32)), (.int (C i))])) tg := by
        intro tg kt
        refine XS.icmpNo X0.here hx rfl (hb hby d10_12) rfl (XT.ii_eq_f hc12_5) ?_
        refine XS.iconst X0.here hx rfl (hb hby d10_15) ?_
        exact kt
      obtain ⟨fs, hr, hrun, hended, hW, hsame⟩ := X0.leave (v := some (.int (0 : Int32))) (fun h => by rw [Bd.returns] at h; cases h)
      refine ⟨_, _, pre0 _ ?_, hrun, hended, _, _, rfl, ?_, ⟨_, rfl⟩, hW, hsame.mono (by decide) (by decide)⟩
      · refine st2 _ ?_
        refine st4 _ ?_
        refine st6 _ ?_
        refine st23 _ ?_
        show Steps p.tables e below (s₁.setTop (mkF m 16 #[.val (.ref a1), .val (.int (Int32.ofNat N)), .val (.int (Int32.ofNat i))] [(.int (0 : Int32))])) _
        exact retN X0 hx (t := .boolean) Bd.returns (by simp) (hb hby d10_16) hr
      · show Q10 Z a1 N C i h0 n0 _ s₁.heap _
        rw [e0]
        exact ⟨_, rfl, N0, rfl, Or.inr ⟨rfl, fun q => hc12_5 q.2.1⟩⟩
  · -- pc 2: not (Int32.ofNat i) < (Int32.ofNat N)
    have hc2_1n : ¬ i < N := fun q => hc2_1 ((own_lt (by omega) (by omega)).mpr q)
    have st24 : ∀ tg, Steps p.tables e below (s₁.setTop (mkF m 6 #[.val (.ref a1), .val (.int (Int32.ofNat N)), .val (.int (Int32.ofNat i))] [(.int (0 : Int32))])) tg → Steps p.tables e below (s₁.setTop (mkF m 2 #[.val (.ref a1), .val (.int (Int32.ofNat N)), .val (.int (Int32.ofNat i))] [(.int (Int32.ofNat N)), (.int (Int32.ofNat i))])) tg := by
      intro tg kt
      refine XS.icmpNo X0.here hx rfl (hb hby d10_2) rfl (XT.ii_lt_f hc2_1) ?_
      refine XS.iconst X0.here hx rfl (hb hby d10_5) ?_
      exact kt
    obtain ⟨fs, hr, hrun, hended, hW, hsame⟩ := X0.leave (v := some (.int (0 : Int32))) (fun h => by rw [Bd.returns] at h; cases h)
    refine ⟨_, _, pre0 _ ?_, hrun, hended, _, _, rfl, ?_, ⟨_, rfl⟩, hW, hsame.mono (by decide) (by decide)⟩
    · refine st2 _ ?_
      refine st24 _ ?_
      show Steps p.tables e below (s₁.setTop (mkF m 6 #[.val (.ref a1), .val (.int (Int32.ofNat N)), .val (.int (Int32.ofNat i))] [(.int (0 : Int32))])) _
      exact retN X0 hx (t := .boolean) Bd.returns (by simp) (hb hby d10_6) hr
    · show Q10 Z a1 N C i h0 n0 _ s₁.heap _
      rw [e0]
      exact ⟨_, rfl, N0, rfl, Or.inr ⟨rfl, fun q => absurd q.1 (by omega)⟩⟩
theorem d28_0 : decode jdk_52_method_3_code 0 = .ok (.iload_n 0, 1) := by decide +kernel
theorem d28_1 : decode jdk_52_method_3_code 1 = .ok (.ifCond .ge 11, 3) := by decide +kernel
theorem d28_12 : decode jdk_52_method_3_code 12 = .ok (.iload_n 0, 1) := by decide +kernel
theorem d28_13 : decode jdk_52_method_3_code 13 = .ok (.ldc 20, 2) := by decide +kernel
theorem d28_15 : decode jdk_52_method_3_code 15 = .ok (.if_icmp .lt 40, 3) := by decide +kernel
theorem d28_55 : decode jdk_52_method_3_code 55 = .ok (.iload_n 0, 1) := by decide +kernel
theorem d28_56 : decode jdk_52_method_3_code 56 = .ok (.iconst 1, 1) := by decide +kernel
theorem d28_57 : decode jdk_52_method_3_code 57 = .ok (.ishl, 1) := by decide +kernel
theorem d28_58 : decode jdk_52_method_3_code 58 = .ok (.ireturn, 1) := by decide +kernel
theorem pn_28 : plainName "java/lang/StringUTF16" = true := by first | (simp [plainName, overriddenIn]; done) | decide +kernel
theorem ef_28 (m : MethodId) (y0 : Int32) : entryFrame m #[(.int y0)] 1 = mkF m 0 #[.val (.int y0)] [] := by first | (simp [entryFrame, mkF, argsToLocals, Value.category]; done) | rfl
def Q28 (Z : State) (N : Nat) (h0 : Heap) (n0 : Nat) (v : Option Value) (h : Heap) (L : List Loc) : Prop := v = some (.int (Int32.ofNat (2 * N))) ∧ Fr n0 L ∧ h = h0
set_option maxRecDepth 65536 in
set_option maxHeartbeats 40000000 in
theorem rm28 (l : Launch) (Z : State) (a0 : Array Value) (hw : ∀ d ∈ tables_1, d.before a0 Z = true) (ws : List Jvm.Cond) (N : Nat) (h0 : Heap) (n0 : Nat) (Z0 : n0 ≤ h0.size) (hN5 : N ≤ 5) :
    MetFree l (⟨"java/lang/StringUTF16", "newBytesLength", "(I)I"⟩ : MethodName) (head1 (Jvm.Cond.code (⟨"java/lang/StringUTF16", "newBytesLength", "(I)I"⟩ : MethodName) jdk_52_method_3_code 1 (some .int) :: ws) ({ frames := 0, cells := 0, slots := 0, locals := 0 } : Room)) (fun a U => a = #[(.int (Int32.ofNat N))] ∧ Z.Warmed39 U.vm ∧ U.heap = h0) (fun _ _ _ _ _ => True) (fun _ U oo U' => ∃ v L, oo = .returned v ∧ Q28 Z N h0 n0 v U'.heap L ∧ FrameEnd U oo U' L ({ frames := 0, cells := 0, slots := 0, locals := 0 } : Room).cells ({ frames := 0, cells := 0, slots := 0, locals := 0 } : Room).slots) := by
  refine MetFree.of_bodySF (plainFor_of_name pn_28) hisR ?_
  intro p e s m args below meth c s₁ Bd hml0 hP hK
  obtain ⟨rfl, hZ, hh⟩ := hP
  have hx := Bd.exec
  have hby := Bd.bytes
  have hml : c.maxLocals = 1 := hml0
  have hown : s.vm.findClass "java/lang/StringUTF16" = some m.cls := findClass_of_methodNamed Bd.named
  have hnm := (name_of_methodNamed Bd.named Bd.method).1
  have X0 : Stand p l e ({ frames := 0, cells := 0, slots := 0, locals := 0 } : Room) s m #[(.int (Int32.ofNat N))] below meth c s₁ [] 0 0 := Stand.of_body Bd
  have e0 : s₁.heap = h0 := by rw [← hh, Bd.state]; rfl
  have N0 := Fr.nil n0
  have K0 : Keep h0 h0 [] := Keep.refl _ _
  have pre0 : ∀ tg, Steps p.tables e below (s₁.setTop (mkF m 0 #[.val (.int (Int32.ofNat N))] [])) tg → Steps p.tables e below (s₁.setTop (entryFrame m #[(.int (Int32.ofNat N))] 1)) tg := fun tg k => castTop (ef_28 m (Int32.ofNat N)) k
  have hlo : ¬ ((Int32.ofNat N) < 0) := own_nn (by omega)
  have hhi : (Int32.ofNat N) < (1073741823 : Int32) := own_big (by omega)
  have st1 : ∀ tg, Steps p.tables e below (s₁.setTop (mkF m 58 #[.val (.int (Int32.ofNat N))] [(.int ((Int32.ofNat N) <<< ((1 : Int32) &&& 31)))])) tg → Steps p.tables e below (s₁.setTop (mkF m 0 #[.val (.int (Int32.ofNat N))] [])) tg := by
    intro tg kt
    refine XS.iloadN X0.here hx rfl (hb hby d28_0) rfl ?_
    refine XS.ifYes X0.here hx rfl (pc0 := 1) (pc' := 12) rfl (hb hby d28_1) rfl (XT.i0_ge_t hlo) (by decide) (by decide) ?_
    refine XS.iloadN X0.here hx rfl (hb hby d28_12) rfl ?_
    refine X0.ldcInt hx hown (mvT hZ (hw _ (List.mem_of_getElem? (i := 122) rfl))) (g := (mkF m 13 #[.val (.int (Int32.ofNat N))] [(.int (Int32.ofNat N))])) rfl (hb hby d28_13) _ ?_
    show Steps p.tables e below (s₁.setTop (mkF m 15 #[.val (.int (Int32.ofNat N))] [(.int (1073741823 : Int32)), (.int (Int32.ofNat N))])) tg
    refine XS.icmpYes X0.here hx rfl (pc0 := 15) (pc' := 55) rfl (hb hby d28_15) rfl (XT.ii_lt_t hhi) (by decide) (by decide) ?_
    refine XS.iloadN X0.here hx rfl (hb hby d28_55) rfl ?_
    refine XS.iconst X0.here hx rfl (hb hby d28_56) ?_
    refine XS.ishl X0.here hx rfl (hb hby d28_57) rfl ?_
    exact kt
  obtain ⟨fs, hr, hrun, hended, hW, hsame⟩ := X0.leave (v := some (.int ((Int32.ofNat N) <<< ((1 : Int32) &&& 31)))) (fun h => by rw [Bd.returns] at h; cases h)
  refine ⟨_, _, pre0 _ ?_, hrun, hended, _, _, rfl, ?_, ⟨_, rfl⟩, hW, hsame.mono (by decide) (by decide)⟩
  · refine st1 _ ?_
    show Steps p.tables e below (s₁.setTop (mkF m 58 #[.val (.int (Int32.ofNat N))] [(.int ((Int32.ofNat N) <<< ((1 : Int32) &&& 31)))])) _
    exact retI X0 hx Bd.returns (hb hby d28_58) hr
  · show Q28 Z N h0 n0 _ s₁.heap _
    rw [e0]
    refine ⟨?_, N0, rfl⟩
    exact congrArg (fun z => some (Value.int z)) (own_shl (by omega))
theorem d27_0 : decode jdk_52_method_2_code 0 = .ok (.iload_n 0, 1) := by decide +kernel
theorem d27_1 : decode jdk_52_method_2_code 1 = .ok (.invokestatic 11, 3) := by decide +kernel
theorem d27_4 : decode jdk_52_method_2_code 4 = .ok (.newarray .byte, 2) := by decide +kernel
theorem d27_6 : decode jdk_52_method_2_code 6 = .ok (.areturn, 1) := by decide +kernel
theorem pn_27 : plainName "java/lang/StringUTF16" = true := by first | (simp [plainName, overriddenIn]; done) | decide +kernel
theorem ef_27 (m : MethodId) (y0 : Int32) : entryFrame m #[(.int y0)] 1 = mkF m 0 #[.val (.int y0)] [] := by first | (simp [entryFrame, mkF, argsToLocals, Value.category]; done) | rfl
def Q27 (Z : State) (N : Nat) (h0 : Heap) (n0 : Nat) (v : Option Value) (h : Heap) (L : List Loc) : Prop := ∃ b, v = some (.ref b) ∧ Fr n0 L ∧ Keep h0 h [] ∧ n0 ≤ b ∧ h0.size ≤ b ∧ ArF Z h b .byte (2 * N) (fun _ => (0 : Int32))
set_option maxRecDepth 65536 in
set_option maxHeartbeats 40000000 in
theorem rm27 (l : Launch) (Z : State) (a0 : Array Value) (hw : ∀ d ∈ tables_1, d.before a0 Z = true) (ws : List Jvm.Cond) (N : Nat) (h0 : Heap) (n0 : Nat) (Z0 : n0 ≤ h0.size) (hN5 : N ≤ 5) :
    MetFree l (⟨"java/lang/StringUTF16", "newBytesFor", "(I)[B"⟩ : MethodName) (head1 (Jvm.Cond.code (⟨"java/lang/StringUTF16", "newBytesFor", "(I)[B"⟩ : MethodName) jdk_52_method_2_code 1 (some (.array .byte)) :: ws) ({ frames := 1, cells := 1, slots := 10, locals := 12 } : Room)) (fun a U => a = #[(.int (Int32.ofNat N))] ∧ Z.Warmed39 U.vm ∧ U.heap = h0) (fun _ _ _ _ _ => True) (fun _ U oo U' => ∃ v L, oo = .returned v ∧ Q27 Z N h0 n0 v U'.heap L ∧ FrameEnd U oo U' L ({ frames := 1, cells := 1, slots := 10, locals := 12 } : Room).cells ({ frames := 1, cells := 1, slots := 10, locals := 12 } : Room).slots) := by
  refine MetFree.of_bodySF (plainFor_of_name pn_27) hisR ?_
  intro p e s m args below meth c s₁ Bd hml0 hP hK
  obtain ⟨rfl, hZ, hh⟩ := hP
  have hx := Bd.exec
  have hby := Bd.bytes
  have hml : c.maxLocals = 1 := hml0
  have hown : s.vm.findClass "java/lang/StringUTF16" = some m.cls := findClass_of_methodNamed Bd.named
  have hnm := (name_of_methodNamed Bd.named Bd.method).1
  have X0 : Stand p l e ({ frames := 1, cells := 1, slots := 10, locals := 12 } : Room) s m #[(.int (Int32.ofNat N))] below meth c s₁ [] 0 0 := Stand.of_body Bd
  have e0 : s₁.heap = h0 := by rw [← hh, Bd.state]; rfl
  have N0 := Fr.nil n0
  have K0 : Keep h0 h0 [] := Keep.refl _ _
  have pre0 : ∀ tg, Steps p.tables e below (s₁.setTop (mkF m 0 #[.val (.int (Int32.ofNat N))] [])) tg → Steps p.tables e below (s₁.setTop (entryFrame m #[(.int (Int32.ofNat N))] 1)) tg := fun tg k => castTop (ef_27 m (Int32.ofNat N)) k
  have st1 : ∀ tg, Steps p.tables e below (s₁.setTop (mkF m 1 #[.val (.int (Int32.ofNat N))] [(.int (Int32.ofNat N))])) tg → Steps p.tables e below (s₁.setTop (mkF m 0 #[.val (.int (Int32.ofNat N))] [])) tg := by
    intro tg kt
    refine XS.iloadN X0.here hx rfl (hb hby d27_0) rfl ?_
    exact kt
  obtain ⟨_, _, ⟨T2, L2, k2, n2⟩, -, X2, ⟨Lc2, hQ2, l2, y2, z2⟩, st2⟩ := Jvm.LawKit.callS X0 hx (y := (⟨"java/lang/StringUTF16", "newBytesLength", "(I)I"⟩ : MethodName)) hown (mvT hZ (hw _ (List.mem_of_getElem? (i := 119) rfl))) (mvT hZ (hw _ (List.mem_of_getElem? (i := 120) rfl))) (mvT hZ (hw _ (List.mem_of_getElem? (i := 94) rfl))) (mvT hZ (hw _ (List.mem_of_getElem? (i := 121) rfl))) (by decide) (backOf (W := 0) (rm28 l Z a0 hw [] N h0 n0 Z0 hN5) hZ (hw _ (List.mem_of_getElem? (i := 121) rfl)) (hw _ (List.mem_of_getElem? (i := 94) rfl)) (by decide) (by decide)) (g := (mkF m 1 #[.val (.int (Int32.ofNat N))] [(.int (Int32.ofNat N))])) rfl (by rw [hml]; rfl) (argsL := [(.int (Int32.ofNat N))]) (rest := []) (lenOf pd_16 rfl) rfl (by show 2 * 0 + _ ≤ _; exact Nat.le_of_eq rfl) (hb hby d27_1) (fun _ _ => ⟨rfl, e0, (by decide : 0 + 0 ≤ _), (by decide : 0 + 0 ≤ _)⟩)
  dsimp only [Pt.U, Pt.locs, Pt.cells, Pt.slots] at X2 l2 y2 z2 st2 hQ2
  subst l2 y2 z2
  obtain ⟨rfl, N2q, e2⟩ := hQ2
  have N2 := Fr.app N0 N2q
  obtain ⟨T3, h3, k3, X3, e3, E3, A3, st3⟩ := newP X2 hx hZ (hw _ (List.mem_of_getElem? (i := 10) rfl)) e2 (g := (mkF m 4 #[.val (.int (Int32.ofNat N))] [(.int (Int32.ofNat (2 * N)))])) rfl (hb hby d27_4) rfl (own_nn (by omega)) (cap := 10) (by rw [own_tn (by omega)]; omega) (by decide) (by decide) (by decide)
  obtain ⟨b3, gz3⟩ : ∃ z, z = h0.size := ⟨_, rfl⟩
  rw [← gz3] at A3 st3
  have g_b3 : n0 ≤ b3 := Nat.le_trans Z0 (Nat.le_of_eq gz3.symm)
  have sz_b3 : h0.size ≤ b3 := Nat.le_trans K0.1 (Nat.le_of_eq gz3.symm)
  have K3 : Keep h0 h3 [] := K0.ext E3
  have Z3 : n0 ≤ h3.size := Nat.le_trans Z0 E3.1
  have G4 : ArF Z h3 b3 .byte (2 * N) (fun _ => (0 : Int32)) := ArF.of_arv (Arv.new A3 (own_nn (by omega))) (own_tn (by omega)) (fun i hi => rfl)
  obtain ⟨fs, hr, hrun, hended, hW, hsame⟩ := X3.leave (v := some (.ref b3)) (fun h => by rw [Bd.returns] at h; cases h)
  refine ⟨_, _, pre0 _ ?_, hrun, hended, _, _, rfl, ?_, ⟨_, rfl⟩, hW, hsame.mono (by decide) (by decide)⟩
  · refine st1 _ ?_
    show Steps p.tables e below (s₁.setTop (mkF m 1 #[.val (.int (Int32.ofNat N))] [(.int (Int32.ofNat N))])) _
    refine st2 _ ?_
    show Steps p.tables e below (T2.setTop (mkF m 4 #[.val (.int (Int32.ofNat N))] [(.int (Int32.ofNat (2 * N)))])) _
    refine st3 _ ?_
    show Steps p.tables e below (T3.setTop (mkF m 6 #[.val (.int (Int32.ofNat N))] [(.ref b3)])) _
    exact retOut X3 hx Bd.returns rfl (Or.inr (Or.inr (Or.inr (Or.inr ⟨rfl, rfl, rfl⟩)))) (hb hby d27_6) hr
  · show Q27 Z N h0 n0 _ T3.heap _
    rw [e3]
    exact ⟨b3, rfl, N2, K3, g_b3, sz_b3, G4⟩
theorem d29_0 : decode jdk_52_method_4_code 0 = .ok (.getstatic 44, 3) := by decide +kernel
theorem d29_3 : decode jdk_52_method_4_code 3 = .ok (.ifCond .ne 25, 3) := by decide +kernel
theorem d29_28 : decode jdk_52_method_4_code 28 = .ok (.iload_n 1, 1) := by decide +kernel
theorem d29_29 : decode jdk_52_method_4_code 29 = .ok (.iconst 1, 1) := by decide +kernel
theorem d29_30 : decode jdk_52_method_4_code 30 = .ok (.ishl, 1) := by decide +kernel
theorem d29_31 : decode jdk_52_method_4_code 31 = .ok (.istore_n 1, 1) := by decide +kernel
theorem d29_32 : decode jdk_52_method_4_code 32 = .ok (.aload_n 0, 1) := by decide +kernel
theorem d29_33 : decode jdk_52_method_4_code 33 = .ok (.iload_n 1, 1) := by decide +kernel
theorem d29_34 : decode jdk_52_method_4_code 34 = .ok (.iinc 1 1, 3) := by decide +kernel
theorem d29_37 : decode jdk_52_method_4_code 37 = .ok (.iload_n 2, 1) := by decide +kernel
theorem d29_38 : decode jdk_52_method_4_code 38 = .ok (.getstatic 59, 3) := by decide +kernel
theorem d29_41 : decode jdk_52_method_4_code 41 = .ok (.ishr, 1) := by decide +kernel
theorem d29_42 : decode jdk_52_method_4_code 42 = .ok (.i2b, 1) := by decide +kernel
theorem d29_43 : decode jdk_52_method_4_code 43 = .ok (.bastore, 1) := by decide +kernel
theorem d29_44 : decode jdk_52_method_4_code 44 = .ok (.aload_n 0, 1) := by decide +kernel
theorem d29_45 : decode jdk_52_method_4_code 45 = .ok (.iload_n 1, 1) := by decide +kernel
theorem d29_46 : decode jdk_52_method_4_code 46 = .ok (.iload_n 2, 1) := by decide +kernel
theorem d29_47 : decode jdk_52_method_4_code 47 = .ok (.getstatic 63, 3) := by decide +kernel
theorem d29_50 : decode jdk_52_method_4_code 50 = .ok (.ishr, 1) := by decide +kernel
theorem d29_51 : decode jdk_52_method_4_code 51 = .ok (.i2b, 1) := by decide +kernel
theorem d29_52 : decode jdk_52_method_4_code 52 = .ok (.bastore, 1) := by decide +kernel
theorem d29_53 : decode jdk_52_method_4_code 53 = .ok (.return_, 1) := by decide +kernel
theorem pn_29 : plainName "java/lang/StringUTF16" = true := by first | (simp [plainName, overriddenIn]; done) | decide +kernel
theorem ef_29 (m : MethodId) (a1 : Addr) (y1 : Int32) (p3 : Int32) : entryFrame m #[(.ref a1), (.int y1), (.int p3)] 3 = mkF m 0 #[.val (.ref a1), .val (.int y1), .val (.int p3)] [] := by first | (simp [entryFrame, mkF, argsToLocals, Value.category]; done) | rfl
def Q29 (Z : State) (a1 : Addr) (p3 : Int32) (N : Nat) (B : Nat → Int32) (i : Nat) (h0 : Heap) (n0 : Nat) (v : Option Value) (h : Heap) (L : List Loc) : Prop := v = none ∧ Fr n0 L ∧ Keep h0 h [a1] ∧ ∃ B2 : Nat → Int32, ArF Z h a1 .byte (2 * N) B2 ∧ PutS B B2 i p3
set_option maxRecDepth 65536 in
set_option maxHeartbeats 40000000 in
theorem rm29 (l : Launch) (Z : State) (a0 : Array Value) (hw : ∀ d ∈ tables_1, d.before a0 Z = true) (ws : List Jvm.Cond) (a1 : Addr) (p3 : Int32) (N : Nat) (B : Nat → Int32) (i : Nat) (h0 : Heap) (n0 : Nat) (Z0 : n0 ≤ h0.size) (OLD : Old Z n0 h0) (S_a : Sta Z Z.heap "java/lang/StringUTF16" "$assertionsDisabled" "Z" (.int (1 : Int32))) (S_h : Sta Z Z.heap "java/lang/StringUTF16" "HI_BYTE_SHIFT" "I" (.int (0 : Int32))) (S_l : Sta Z Z.heap "java/lang/StringUTF16" "LO_BYTE_SHIFT" "I" (.int (8 : Int32))) (hN5 : N ≤ 5) (hi : i < N) (FA : ArF Z h0 a1 .byte (2 * N) B) (g_a1 : n0 ≤ a1) :
    MetFree l (⟨"java/lang/StringUTF16", "putChar", "([BII)V"⟩ : MethodName) (head1 (Jvm.Cond.code (⟨"java/lang/StringUTF16", "putChar", "([BII)V"⟩ : MethodName) jdk_52_method_4_code 3 none :: ws) ({ frames := 0, cells := 0, slots := 0, locals := 0 } : Room)) (fun a U => a = #[(.ref a1), (.int (Int32.ofNat i)), (.int p3)] ∧ Z.Warmed39 U.vm ∧ U.heap = h0) (fun _ _ _ _ _ => True) (fun _ U oo U' => ∃ v L, oo = .returned v ∧ Q29 Z a1 p3 N B i h0 n0 v U'.heap L ∧ FrameEnd U oo U' L ({ frames := 0, cells := 0, slots := 0, locals := 0 } : Room).cells ({ frames := 0, cells := 0, slots := 0, locals := 0 } : Room).slots) := by
  refine MetFree.of_bodySF (plainFor_of_name pn_29) hisR ?_
  intro p e s m args below meth c s₁ Bd hml0 hP hK
  obtain ⟨rfl, hZ, hh⟩ := hP
  have hx := Bd.exec
  have hby := Bd.bytes
  have hml : c.maxLocals = 3 := hml0
  have hown : s.vm.findClass "java/lang/StringUTF16" = some m.cls := findClass_of_methodNamed Bd.named
  have hnm := (name_of_methodNamed Bd.named Bd.method).1
  have X0 : Stand p l e ({ frames := 0, cells := 0, slots := 0, locals := 0 } : Room) s m #[(.ref a1), (.int (Int32.ofNat i)), (.int p3)] below meth c s₁ [] 0 0 := Stand.of_body Bd
  have e0 : s₁.heap = h0 := by rw [← hh, Bd.state]; rfl
  have N0 := Fr.nil n0
  have K0 : Keep h0 h0 [a1] := Keep.refl _ _
  have pre0 : ∀ tg, Steps p.tables e below (s₁.setTop (mkF m 0 #[.val (.ref a1), .val (.int (Int32.ofNat i)), .val (.int p3)] [])) tg → Steps p.tables e below (s₁.setTop (entryFrame m #[(.ref a1), (.int (Int32.ofNat i)), (.int p3)] 3)) tg := fun tg k => castTop (ef_29 m a1 (Int32.ofNat i) p3) k
  obtain ⟨T1, X1, e1, st1⟩ := getS2 X0 hx hZ hown (host := "") (Or.inl (hw _ (List.mem_of_getElem? (i := 126) rfl))) Via.refl e0 (Sta.ext OLD.2 S_a) (g := (mkF m 0 #[.val (.ref a1), .val (.int (Int32.ofNat i)), .val (.int p3)] [])) rfl (hb hby d29_0)
  have st2 : ∀ tg, Steps p.tables e below (T1.setTop (mkF m 31 #[.val (.ref a1), .val (.int (Int32.ofNat i)), .val (.int p3)] [(.int ((Int32.ofNat i) <<< ((1 : Int32) &&& 31)))])) tg → Steps p.tables e below (T1.setTop (mkF m 3 #[.val (.ref a1), .val (.int (Int32.ofNat i)), .val (.int p3)] [(.int (1 : Int32))])) tg := by
    intro tg kt
    refine XS.ifYes X1.here hx rfl (pc0 := 3) (pc' := 28) rfl (hb hby d29_3) rfl (XT.i0_ne_t (by decide)) (by decide) (by decide) ?_
    refine XS.iloadN X1.here hx rfl (hb hby d29_28) rfl ?_
    refine XS.iconst X1.here hx rfl (hb hby d29_29) ?_
    refine XS.ishl X1.here hx rfl (hb hby d29_30) rfl ?_
    exact kt
  have eq3 : ((Int32.ofNat i) <<< ((1 : Int32) &&& 31)) = (Int32.ofNat (2 * i)) := own_shl (by omega)
  rw [eq3] at st2
  have st4 : ∀ tg, Steps p.tables e below (T1.setTop (mkF m 38 #[.val (.ref a1), .val (.int (Int32.ofNat ((2 * i) + 1))), .val (.int p3)] [(.int p3), (.int (Int32.ofNat (2 * i))), (.ref a1)])) tg → Steps p.tables e below (T1.setTop (mkF m 31 #[.val (.ref a1), .val (.int (Int32.ofNat i)), .val (.int p3)] [(.int (Int32.ofNat (2 * i)))])) tg := by
    intro tg kt
    refine XS.istoreN X1.here hx rfl (hb hby d29_31) rfl (l' := #[.val (.ref a1), .val (.int (Int32.ofNat (2 * i))), .val (.int p3)]) rfl ?_
    refine XS.aloadN X1.here hx rfl (hb hby d29_32) rfl rfl ?_
    refine XS.iloadN X1.here hx rfl (hb hby d29_33) rfl ?_
    refine XS.iinc X1.here hx rfl (hb hby d29_34) rfl (l' := #[.val (.ref a1), .val (.int (Int32.ofNat (2 * i) + (1 : Int32))), .val (.int p3)]) rfl ?_
    rw [show (Int32.ofNat (2 * i) + (1 : Int32)) = Int32.ofNat ((2 * i) + 1) from own_addn _ _]
    show Steps p.tables e below (T1.setTop (mkF m 37 #[.val (.ref a1), .val (.int (Int32.ofNat ((2 * i) + 1))), .val (.int p3)] [(.int (Int32.ofNat (2 * i))), (.ref a1)])) tg
    refine XS.iloadN X1.here hx rfl (hb hby d29_37) rfl ?_
    exact kt
  obtain ⟨T5, X5, e5, st5⟩ := getS2 X1 hx hZ hown (host := "") (Or.inl (hw _ (List.mem_of_getElem? (i := 127) rfl))) Via.refl e1 (Sta.ext OLD.2 S_h) (g := (mkF m 38 #[.val (.ref a1), .val (.int (Int32.ofNat ((2 * i) + 1))), .val (.int p3)] [(.int p3), (.int (Int32.ofNat (2 * i))), (.ref a1)])) rfl (hb hby d29_38)
  have st6 : ∀ tg, Steps p.tables e below (T5.setTop (mkF m 43 #[.val (.ref a1), .val (.int (Int32.ofNat ((2 * i) + 1))), .val (.int p3)] [(.int ((p3 >>> ((0 : Int32) &&& 31)).toInt8.toInt32)), (.int (Int32.ofNat (2 * i))), (.ref a1)])) tg → Steps p.tables e below (T5.setTop (mkF m 41 #[.val (.ref a1), .val (.int (Int32.ofNat ((2 * i) + 1))), .val (.int p3)] [(.int (0 : Int32)), (.int p3), (.int (Int32.ofNat (2 * i))), (.ref a1)])) tg := by
    intro tg kt
    refine XS.ishr X5.here hx rfl (hb hby d29_41) rfl ?_
    refine XS.i2b X5.here hx rfl (hb hby d29_42) rfl ?_
    exact kt
  obtain ⟨cl7, Ar7, Sa7, Ha7⟩ := id FA
  have hin7 : ¬ (Int32.ofNat (2 * i) < 0 ∨ cl7.slots.size ≤ (Int32.ofNat (2 * i)).toNatClampNeg) := own_in (by omega) (by omega) Sa7
  obtain ⟨T8, h8, X8, e8, W8, st8⟩ := stB X5 hx hZ e5 Ar7 (j := Int32.ofNat (2 * i)) hin7 (g := (mkF m 43 #[.val (.ref a1), .val (.int (Int32.ofNat ((2 * i) + 1))), .val (.int p3)] [(.int ((p3 >>> ((0 : Int32) &&& 31)).toInt8.toInt32)), (.int (Int32.ofNat (2 * i))), (.ref a1)])) rfl rfl (hb hby d29_43)
  have N8 := Fr.snoc X8 N0 g_a1
  have K8 : Keep h0 h8 [a1] := K0.wr W8 (Or.inl (List.mem_of_getElem? (i := 0) rfl))
  have Z8 : n0 ≤ h8.size := Nat.le_trans Z0 (Keep.of_wr W8).1
  have G9 : Old Z n0 h8 := OLD.wr W8 g_a1
  have G10 : ArF Z h8 a1 .byte (2 * N) (fun t => if t = (2 * i) then (nar .byte ((p3 >>> ((0 : Int32) &&& 31)).toInt8.toInt32)) else B t) := ArF.set Ar7 Sa7 Ha7 (by omega) (by omega) W8
  have st11 : ∀ tg, Steps p.tables e below (T8.setTop (mkF m 47 #[.val (.ref a1), .val (.int (Int32.ofNat ((2 * i) + 1))), .val (.int p3)] [(.int p3), (.int (Int32.ofNat ((2 * i) + 1))), (.ref a1)])) tg → Steps p.tables e below (T8.setTop (mkF m 44 #[.val (.ref a1), .val (.int (Int32.ofNat ((2 * i) + 1))), .val (.int p3)] [])) tg := by
    intro tg kt
    refine XS.aloadN X8.here hx rfl (hb hby d29_44) rfl rfl ?_
    refine XS.iloadN X8.here hx rfl (hb hby d29_45) rfl ?_
    refine XS.iloadN X8.here hx rfl (hb hby d29_46) rfl ?_
    exact kt
  obtain ⟨T12, X12, e12, st12⟩ := getS2 X8 hx hZ hown (host := "") (Or.inl (hw _ (List.mem_of_getElem? (i := 128) rfl))) Via.refl e8 (Sta.ext G9.2 S_l) (g := (mkF m 47 #[.val (.ref a1), .val (.int (Int32.ofNat ((2 * i) + 1))), .val (.int p3)] [(.int p3), (.int (Int32.ofNat ((2 * i) + 1))), (.ref a1)])) rfl (hb hby d29_47)
  have st13 : ∀ tg, Steps p.tables e below (T12.setTop (mkF m 52 #[.val (.ref a1), .val (.int (Int32.ofNat ((2 * i) + 1))), .val (.int p3)] [(.int ((p3 >>> ((8 : Int32) &&& 31)).toInt8.toInt32)), (.int (Int32.ofNat ((2 * i) + 1))), (.ref a1)])) tg → Steps p.tables e below (T12.setTop (mkF m 50 #[.val (.ref a1), .val (.int (Int32.ofNat ((2 * i) + 1))), .val (.int p3)] [(.int (8 : Int32)), (.int p3), (.int (Int32.ofNat ((2 * i) + 1))), (.ref a1)])) tg := by
    intro tg kt
    refine XS.ishr X12.here hx rfl (hb hby d29_50) rfl ?_
    refine XS.i2b X12.here hx rfl (hb hby d29_51) rfl ?_
    exact kt
  obtain ⟨cl14, Ar14, Sa14, Ha14⟩ := id G10
  have hin14 : ¬ (Int32.ofNat ((2 * i) + 1) < 0 ∨ cl14.slots.size ≤ (Int32.ofNat ((2 * i) + 1)).toNatClampNeg) := own_in (by omega) (by omega) Sa14
  obtain ⟨T15, h15, X15, e15, W15, st15⟩ := stB X12 hx hZ e12 Ar14 (j := Int32.ofNat ((2 * i) + 1)) hin14 (g := (mkF m 52 #[.val (.ref a1), .val (.int (Int32.ofNat ((2 * i) + 1))), .val (.int p3)] [(.int ((p3 >>> ((8 : Int32) &&& 31)).toInt8.toInt32)), (.int (Int32.ofNat ((2 * i) + 1))), (.ref a1)])) rfl rfl (hb hby d29_52)
  have N15 := Fr.snoc X15 N8 g_a1
  have K15 : Keep h0 h15 [a1] := K8.wr W15 (Or.inl (List.mem_of_getElem? (i := 0) rfl))
  have Z15 : n0 ≤ h15.size := Nat.le_trans Z8 (Keep.of_wr W15).1
  have G16 : Old Z n0 h15 := G9.wr W15 g_a1
  have G17 : ArF Z h15 a1 .byte (2 * N) (fun t => if t = ((2 * i) + 1) then (nar .byte ((p3 >>> ((8 : Int32) &&& 31)).toInt8.toInt32)) else (fun t => if t = (2 * i) then (nar .byte ((p3 >>> ((0 : Int32) &&& 31)).toInt8.toInt32)) else B t) t) := ArF.set Ar14 Sa14 Ha14 (by omega) (by omega) W15
  obtain ⟨fs, hr, hrun, hended, hW, hsame⟩ := X15.leave (v := none) (fun _ => rfl)
  refine ⟨_, _, pre0 _ ?_, hrun, hended, _, _, rfl, ?_, ⟨_, rfl⟩, hW, hsame.mono (by decide) (by decide)⟩
  · show Steps p.tables e below (s₁.setTop (mkF m 0 #[.val (.ref a1), .val (.int (Int32.ofNat i)), .val (.int p3)] [])) _
    refine st1 _ ?_
    refine st2 _ ?_
    refine st4 _ ?_
    show Steps p.tables e below (T1.setTop (mkF m 38 #[.val (.ref a1), .val (.int (Int32.ofNat ((2 * i) + 1))), .val (.int p3)] [(.int p3), (.int (Int32.ofNat (2 * i))), (.ref a1)])) _
    refine st5 _ ?_
    refine st6 _ ?_
    show Steps p.tables e below (T5.setTop (mkF m 43 #[.val (.ref a1), .val (.int (Int32.ofNat ((2 * i) + 1))), .val (.int p3)] [(.int ((p3 >>> ((0 : Int32) &&& 31)).toInt8.toInt32)), (.int (Int32.ofNat (2 * i))), (.ref a1)])) _
    refine st8 _ ?_
    refine st11 _ ?_
    show Steps p.tables e below (T8.setTop (mkF m 47 #[.val (.ref a1), .val (.int (Int32.ofNat ((2 * i) + 1))), .val (.int p3)] [(.int p3), (.int (Int32.ofNat ((2 * i) + 1))), (.ref a1)])) _
    refine st12 _ ?_
    refine st13 _ ?_
    show Steps p.tables e below (T12.setTop (mkF m 52 #[.val (.ref a1), .val (.int (Int32.ofNat ((2 * i) + 1))), .val (.int p3)] [(.int ((p3 >>> ((8 : Int32) &&& 31)).toInt8.toInt32)), (.int (Int32.ofNat ((2 * i) + 1))), (.ref a1)])) _
    refine st15 _ ?_
    show Steps p.tables e below (T15.setTop (mkF m 53 #[.val (.ref a1), .val (.int (Int32.ofNat ((2 * i) + 1))), .val (.int p3)] [])) _
    exact X15.returnOut hx Bd.returns (hb hby d29_53) hr
  · show Q29 Z a1 p3 N B i h0 n0 _ T15.heap _
    rw [e15]
    exact ⟨rfl, N15, K15, _, G17, own_put⟩
theorem d26_0 : decode jdk_52_method_14_code 0 = .ok (.iload_n 2, 1) := by decide +kernel
theorem d26_1 : decode jdk_52_method_14_code 1 = .ok (.invokestatic 107, 3) := by decide +kernel
theorem d26_4 : decode jdk_52_method_14_code 4 = .ok (.astore_n 3, 1) := by decide +kernel
theorem d26_5 : decode jdk_52_method_14_code 5 = .ok (.iconst 0, 1) := by decide +kernel
theorem d26_6 : decode jdk_52_method_14_code 6 = .ok (.istore 4, 2) := by decide +kernel
theorem d26_8 : decode jdk_52_method_14_code 8 = .ok (.iload 4, 2) := by decide +kernel
theorem d26_10 : decode jdk_52_method_14_code 10 = .ok (.iload_n 2, 1) := by decide +kernel
theorem d26_11 : decode jdk_52_method_14_code 11 = .ok (.if_icmp .ge 21, 3) := by decide +kernel
theorem d26_14 : decode jdk_52_method_14_code 14 = .ok (.aload_n 3, 1) := by decide +kernel
theorem d26_15 : decode jdk_52_method_14_code 15 = .ok (.iload 4, 2) := by decide +kernel
theorem d26_17 : decode jdk_52_method_14_code 17 = .ok (.aload_n 0, 1) := by decide +kernel
theorem d26_18 : decode jdk_52_method_14_code 18 = .ok (.iload_n 1, 1) := by decide +kernel
theorem d26_19 : decode jdk_52_method_14_code 19 = .ok (.caload, 1) := by decide +kernel
theorem d26_20 : decode jdk_52_method_14_code 20 = .ok (.invokestatic 111, 3) := by decide +kernel
theorem d26_23 : decode jdk_52_method_14_code 23 = .ok (.iinc 1 1, 3) := by decide +kernel
theorem d26_26 : decode jdk_52_method_14_code 26 = .ok (.iinc 4 1, 3) := by decide +kernel
theorem d26_29 : decode jdk_52_method_14_code 29 = .ok (.goto (-21), 3) := by decide +kernel
theorem d26_32 : decode jdk_52_method_14_code 32 = .ok (.aload_n 3, 1) := by decide +kernel
theorem d26_33 : decode jdk_52_method_14_code 33 = .ok (.areturn, 1) := by decide +kernel
theorem pn_26 : plainName "java/lang/StringUTF16" = true := by first | (simp [plainName, overriddenIn]; done) | decide +kernel
theorem ef_26 (m : MethodId) (a1 : Addr) (y2 : Int32) : entryFrame m #[(.ref a1), (.int (0 : Int32)), (.int y2)] 5 = mkF m 0 #[.val (.ref a1), .val (.int (0 : Int32)), .val (.int y2), .unset, .unset] [] := by first | (simp [entryFrame, mkF, argsToLocals, Value.category]; done) | rfl
def Q26 (Z : State) (a1 : Addr) (N : Nat) (C : Nat → Int32) (h0 : Heap) (n0 : Nat) (v : Option Value) (h : Heap) (L : List Loc) : Prop := ∃ b, v = some (.ref b) ∧ Fr n0 L ∧ Keep h0 h [] ∧ n0 ≤ b ∧ h0.size ≤ b ∧ ∃ B2 : Nat → Int32, ArF Z h b .byte (2 * N) B2 ∧ ∀ t, t < N → B2 (2 * t) = Ulo (C t) ∧ B2 ((2 * t) + 1) = Uhi (C t)
set_option maxRecDepth 65536 in
set_option maxHeartbeats 40000000 in
theorem rm26 (l : Launch) (Z : State) (a0 : Array Value) (hw : ∀ d ∈ tables_1, d.before a0 Z = true) (ws : List Jvm.Cond) (a1 : Addr) (N : Nat) (C : Nat → Int32) (h0 : Heap) (n0 : Nat) (Z0 : n0 ≤ h0.size) (OLD : Old Z n0 h0) (S_a : Sta Z Z.heap "java/lang/StringUTF16" "$assertionsDisabled" "Z" (.int (1 : Int32))) (S_h : Sta Z Z.heap "java/lang/StringUTF16" "HI_BYTE_SHIFT" "I" (.int (0 : Int32))) (S_l : Sta Z Z.heap "java/lang/StringUTF16" "LO_BYTE_SHIFT" "I" (.int (8 : Int32))) (hN5 : N ≤ 5) (FA : ArF Z h0 a1 .char N C) :
    MetFree l (⟨"java/lang/StringUTF16", "toBytes", "([CII)[B"⟩ : MethodName) (head1 (Jvm.Cond.code (⟨"java/lang/StringUTF16", "toBytes", "([CII)[B"⟩ : MethodName) jdk_52_method_14_code 5 (some (.array .byte)) :: ws) ({ frames := 2, cells := 1, slots := 10, locals := 24 } : Room)) (fun a U => a = #[(.ref a1), (.int (0 : Int32)), (.int (Int32.ofNat N))] ∧ Z.Warmed39 U.vm ∧ U.heap = h0) (fun _ _ _ _ _ => True) (fun _ U oo U' => ∃ v L, oo = .returned v ∧ Q26 Z a1 N C h0 n0 v U'.heap L ∧ FrameEnd U oo U' L ({ frames := 2, cells := 1, slots := 10, locals := 24 } : Room).cells ({ frames := 2, cells := 1, slots := 10, locals := 24 } : Room).slots) := by
  refine MetFree.of_bodySF (plainFor_of_name pn_26) hisR ?_
  intro p e s m args below meth c s₁ Bd hml0 hP hK
  obtain ⟨rfl, hZ, hh⟩ := hP
  have hx := Bd.exec
  have hby := Bd.bytes
  have hml : c.maxLocals = 5 := hml0
  have hown : s.vm.findClass "java/lang/StringUTF16" = some m.cls := findClass_of_methodNamed Bd.named
  have hnm := (name_of_methodNamed Bd.named Bd.method).1
  have X0 : Stand p l e ({ frames := 2, cells := 1, slots := 10, locals := 24 } : Room) s m #[(.ref a1), (.int (0 : Int32)), (.int (Int32.ofNat N))] below meth c s₁ [] 0 0 := Stand.of_body Bd
  have e0 : s₁.heap = h0 := by rw [← hh, Bd.state]; rfl
  have N0 := Fr.nil n0
  have K0 : Keep h0 h0 [] := Keep.refl _ _
  have pre0 : ∀ tg, Steps p.tables e below (s₁.setTop (mkF m 0 #[.val (.ref a1), .val (.int (0 : Int32)), .val (.int (Int32.ofNat N)), .unset, .unset] [])) tg → Steps p.tables e below (s₁.setTop (entryFrame m #[(.ref a1), (.int (0 : Int32)), (.int (Int32.ofNat N))] 5)) tg := fun tg k => castTop (ef_26 m a1 (Int32.ofNat N)) k
  refine Classical.byContradiction fun hG => ?_
  have st1 : ∀ tg, Steps p.tables e below (s₁.setTop (mkF m 1 #[.val (.ref a1), .val (.int (0 : Int32)), .val (.int (Int32.ofNat N)), .unset, .unset] [(.int (Int32.ofNat N))])) tg → Steps p.tables e below (s₁.setTop (mkF m 0 #[.val (.ref a1), .val (.int (0 : Int32)), .val (.int (Int32.ofNat N)), .unset, .unset] [])) tg := by
    intro tg kt
    refine XS.iloadN X0.here hx rfl (hb hby d26_0) rfl ?_
    exact kt
  obtain ⟨_, _, ⟨T2, L2, k2, n2⟩, -, X2, ⟨Lc2, hQ2, l2, y2, z2⟩, st2⟩ := Jvm.LawKit.callS X0 hx (y := (⟨"java/lang/StringUTF16", "newBytesFor", "(I)[B"⟩ : MethodName)) hown (mvT hZ (hw _ (List.mem_of_getElem? (i := 116) rfl))) (mvT hZ (hw _ (List.mem_of_getElem? (i := 117) rfl))) (mvT hZ (hw _ (List.mem_of_getElem? (i := 94) rfl))) (mvT hZ (hw _ (List.mem_of_getElem? (i := 118) rfl))) (by decide) (backOf (W := 0) (rm27 l Z a0 hw [] N h0 n0 Z0 hN5) hZ (hw _ (List.mem_of_getElem? (i := 118) rfl)) (hw _ (List.mem_of_getElem? (i := 94) rfl)) (by decide) (by decide)) (g := (mkF m 1 #[.val (.ref a1), .val (.int (0 : Int32)), .val (.int (Int32.ofNat N)), .unset, .unset] [(.int (Int32.ofNat N))])) rfl (by rw [hml]; rfl) (argsL := [(.int (Int32.ofNat N))]) (rest := []) (lenOf pd_18 rfl) rfl (by show 2 * 0 + _ ≤ _; exact Nat.le_of_eq rfl) (hb hby d26_1) (fun _ _ => ⟨rfl, e0, (by decide : 0 + 1 ≤ _), (by decide : 0 + 10 ≤ _)⟩)
  dsimp only [Pt.U, Pt.locs, Pt.cells, Pt.slots] at X2 l2 y2 z2 st2 hQ2
  subst l2 y2 z2
  obtain ⟨b2, rfl, N2q, K2q, g_b2, sz2q, Gm2⟩ := hQ2
  have N2 := Fr.app N0 N2q
  have ne_a1_b2 : a1 ≠ b2 := Nat.ne_of_lt (Nat.lt_of_lt_of_le FA.lt sz2q)
  have sz_b2 : h0.size ≤ b2 := Nat.le_trans K0.1 sz2q
  have G3 : Old Z n0 T2.heap := OLD.keep K2q (all0)
  have G4 : ArF Z T2.heap a1 .char N C := FA.keep K2q (nin0)
  have K2 : Keep h0 T2.heap [] := K0.trans K2q all0
  have Z2 : n0 ≤ T2.heap.size := Nat.le_trans Z0 K2q.1
  have st5 : ∀ tg, Steps p.tables e below (T2.setTop (mkF m 8 #[.val (.ref a1), .val (.int (0 : Int32)), .val (.int (Int32.ofNat N)), .val (.ref b2), .val (.int (0 : Int32))] [])) tg → Steps p.tables e below (T2.setTop (mkF m 4 #[.val (.ref a1), .val (.int (0 : Int32)), .val (.int (Int32.ofNat N)), .unset, .unset] [(.ref b2)])) tg := by
    intro tg kt
    refine XS.astoreN X2.here hx rfl (hb hby d26_4) rfl rfl (l' := #[.val (.ref a1), .val (.int (0 : Int32)), .val (.int (Int32.ofNat N)), .val (.ref b2), .unset]) rfl ?_
    refine XS.iconst X2.here hx rfl (hb hby d26_5) ?_
    refine XS.istore X2.here hx rfl (hb hby d26_6) rfl (l' := #[.val (.ref a1), .val (.int (0 : Int32)), .val (.int (Int32.ofNat N)), .val (.ref b2), .val (.int (0 : Int32))]) rfl ?_
    exact kt
  have lp6 : ∀ (k : Nat) (i : Nat) (B : Nat → Int32) (Tp6 : State) (lc6 : List Loc) (hp6 : Heap), (N < i + k) → (i ≤ N) → (∀ t, t < i → B (2 * t) = Ulo (C t) ∧ B ((2 * t) + 1) = Uhi (C t)) → Stand p l e ({ frames := 2, cells := 1, slots := 10, locals := 24 } : Room) s m #[(.ref a1), (.int (0 : Int32)), (.int (Int32.ofNat N))] below meth c Tp6 lc6 1 10 → Tp6.heap = hp6 → Fr n0 lc6 → Keep h0 hp6 [] → n0 ≤ hp6.size → Old Z n0 hp6 → ArF Z hp6 a1 .char N C → ArF Z hp6 b2 .byte (2 * N) B → (∀ tg, Steps p.tables e below (Tp6.setTop (mkF m 8 #[.val (.ref a1), .val (.int (Int32.ofNat i)), .val (.int (Int32.ofNat N)), .val (.ref b2), .val (.int (Int32.ofNat i))] [])) tg → Steps p.tables e below (s₁.setTop (entryFrame m #[(.ref a1), (.int (0 : Int32)), (.int (Int32.ofNat N))] 5)) tg) → False := by
    intro k
    induction k with
    | zero =>
      intro i B Tp6 lc6 hp6 hk hi hB
      intros; exfalso; omega
    | succ k ih =>
      intro i B Tp6 lc6 hp6 hk hi hB Xp6 ep6 Np6 Kp6 Zp6 Gp6_0 Gp6_1 Gp6_2 pp6
      have st8 : ∀ tg, Steps p.tables e below (Tp6.setTop (mkF m 11 #[.val (.ref a1), .val (.int (Int32.ofNat i)), .val (.int (Int32.ofNat N)), .val (.ref b2), .val (.int (Int32.ofNat i))] [(.int (Int32.ofNat N)), (.int (Int32.ofNat i))])) tg → Steps p.tables e below (Tp6.setTop (mkF m 8 #[.val (.ref a1), .val (.int (Int32.ofNat i)), .val (.int (Int32.ofNat N)), .val (.ref b2), .val (.int (Int32.ofNat i))] [])) tg := by
        intro tg kt
        refine XS.iload Xp6.here hx rfl (hb hby d26_8) rfl ?_
        refine XS.iloadN Xp6.here hx rfl (hb hby d26_10) rfl ?_
        exact kt
      by_cases hc11_7 : (Int32.ofNat i) < (Int32.ofNat N)
      · -- pc 11: (Int32.ofNat i) < (Int32.ofNat N)
        have hc11_7n : i < N := (own_lt (by omega) (by omega)).mp hc11_7
        have st10 : ∀ tg, Steps p.tables e below (Tp6.setTop (mkF m 19 #[.val (.ref a1), .val (.int (Int32.ofNat i)), .val (.int (Int32.ofNat N)), .val (.ref b2), .val (.int (Int32.ofNat i))] [(.int (Int32.ofNat i)), (.ref a1), (.int (Int32.ofNat i)), (.ref b2)])) tg → Steps p.tables e below (Tp6.setTop (mkF m 11 #[.val (.ref a1), .val (.int (Int32.ofNat i)), .val (.int (Int32.ofNat N)), .val (.ref b2), .val (.int (Int32.ofNat i))] [(.int (Int32.ofNat N)), (.int (Int32.ofNat i))])) tg := by
          intro tg kt
          refine XS.icmpNo Xp6.here hx rfl (hb hby d26_11) rfl (XT.ii_ge_f hc11_7) ?_
          refine XS.aloadN Xp6.here hx rfl (hb hby d26_14) rfl rfl ?_
          refine XS.iload Xp6.here hx rfl (hb hby d26_15) rfl ?_
          refine XS.aloadN Xp6.here hx rfl (hb hby d26_17) rfl rfl ?_
          show Steps p.tables e below (Tp6.setTop (mkF m 18 #[.val (.ref a1), .val (.int (Int32.ofNat i)), .val (.int (Int32.ofNat N)), .val (.ref b2), .val (.int (Int32.ofNat i))] [(.ref a1), (.int (Int32.ofNat i)), (.ref b2)])) tg
          refine XS.iloadN Xp6.here hx rfl (hb hby d26_18) rfl ?_
          exact kt
        obtain ⟨cl9, Ar9, Sa9, Ha9⟩ := id Gp6_1
        have hin9 : ¬ (Int32.ofNat i < 0 ∨ cl9.slots.size ≤ (Int32.ofNat i).toNatClampNeg) := own_in (by omega) (by omega) Sa9
        have hat9 : cl9.slots[(Int32.ofNat i).toNatClampNeg]? = some (.int (C i)) := own_at (by omega) (by omega) Ha9
        have st11 : ∀ tg, Steps p.tables e below (Tp6.setTop (mkF m 20 #[.val (.ref a1), .val (.int (Int32.ofNat i)), .val (.int (Int32.ofNat N)), .val (.ref b2), .val (.int (Int32.ofNat i))] [(.int (C i)), (.int (Int32.ofNat i)), (.ref b2)])) tg → Steps p.tables e below (Tp6.setTop (mkF m 19 #[.val (.ref a1), .val (.int (Int32.ofNat i)), .val (.int (Int32.ofNat N)), .val (.ref b2), .val (.int (Int32.ofNat i))] [(.int (Int32.ofNat i)), (.ref a1), (.int (Int32.ofNat i)), (.ref b2)])) tg := by
          intro tg kt
          refine Xp6.caload hx (j := Int32.ofNat i) (v := (.int (C i))) (by rw [ep6]; exact Ar9.1) (State.isArrayOf_alike hZ.alike Ar9.2.1) Ar9.2.2 hin9 hat9 (g := (mkF m 19 #[.val (.ref a1), .val (.int (Int32.ofNat i)), .val (.int (Int32.ofNat N)), .val (.ref b2), .val (.int (Int32.ofNat i))] [(.int (Int32.ofNat i)), (.ref a1), (.int (Int32.ofNat i)), (.ref b2)])) rfl rfl (hb hby d26_19) _ ?_
          exact kt
        obtain ⟨_, _, ⟨T12, L12, k12, n12⟩, -, X12, ⟨Lc12, hQ12, l12, y12, z12⟩, st12⟩ := Jvm.LawKit.callS Xp6 hx (y := (⟨"java/lang/StringUTF16", "putChar", "([BII)V"⟩ : MethodName)) hown (mvT hZ (hw _ (List.mem_of_getElem? (i := 123) rfl))) (mvT hZ (hw _ (List.mem_of_getElem? (i := 124) rfl))) (mvT hZ (hw _ (List.mem_of_getElem? (i := 94) rfl))) (mvT hZ (hw _ (List.mem_of_getElem? (i := 125) rfl))) (by decide) (backOf (W := 0) (rm29 l Z a0 hw [] b2 (C i) N B i hp6 n0 Zp6 Gp6_0 S_a S_h S_l hN5 (by omega) Gp6_2 g_b2) hZ (hw _ (List.mem_of_getElem? (i := 125) rfl)) (hw _ (List.mem_of_getElem? (i := 94) rfl)) (by decide) (by decide)) (g := (mkF m 20 #[.val (.ref a1), .val (.int (Int32.ofNat i)), .val (.int (Int32.ofNat N)), .val (.ref b2), .val (.int (Int32.ofNat i))] [(.int (C i)), (.int (Int32.ofNat i)), (.ref b2)])) rfl (by rw [hml]; rfl) (argsL := [(.ref b2), (.int (Int32.ofNat i)), (.int (C i))]) (rest := []) (lenOf pd_19 rfl) rfl (by show 2 * 0 + _ ≤ _; exact Nat.le_of_eq rfl) (hb hby d26_20) (fun _ _ => ⟨rfl, ep6, (by decide : 1 + 0 ≤ _), (by decide : 10 + 0 ≤ _)⟩)
        dsimp only [Pt.U, Pt.locs, Pt.cells, Pt.slots] at X12 l12 y12 z12 st12 hQ12
        subst l12 y12 z12
        obtain ⟨rfl, N12q, K12q, B12, V12q, Pu12⟩ := hQ12
        have N12 := Fr.app Np6 N12q
        have G13 : Old Z n0 T12.heap := Gp6_0.keep K12q (allS g_b2 (all0))
        have G14 : ArF Z T12.heap a1 .char N C := Gp6_1.keep K12q (ninS ne_a1_b2 (nin0))
        have K12 : Keep h0 T12.heap [] := Kp6.trans K12q (allS (Or.inr sz_b2) all0)
        have Z12 : n0 ≤ T12.heap.size := Nat.le_trans Zp6 K12q.1
        have st15 : ∀ tg, Steps p.tables e below (T12.setTop (mkF m 8 #[.val (.ref a1), .val (.int (Int32.ofNat (i + 1))), .val (.int (Int32.ofNat N)), .val (.ref b2), .val (.int (Int32.ofNat (i + 1)))] [])) tg → Steps p.tables e below (T12.setTop (mkF m 23 #[.val (.ref a1), .val (.int (Int32.ofNat i)), .val (.int (Int32.ofNat N)), .val (.ref b2), .val (.int (Int32.ofNat i))] [])) tg := by
          intro tg kt
          refine XS.iinc X12.here hx rfl (hb hby d26_23) rfl (l' := #[.val (.ref a1), .val (.int (Int32.ofNat i + (1 : Int32))), .val (.int (Int32.ofNat N)), .val (.ref b2), .val (.int (Int32.ofNat i))]) rfl ?_
          rw [show (Int32.ofNat i + (1 : Int32)) = Int32.ofNat (i + 1) from own_addn _ _]
          refine XS.iinc X12.here hx rfl (hb hby d26_26) rfl (l' := #[.val (.ref a1), .val (.int (Int32.ofNat (i + 1))), .val (.int (Int32.ofNat N)), .val (.ref b2), .val (.int (Int32.ofNat i + (1 : Int32)))]) rfl ?_
          rw [show (Int32.ofNat i + (1 : Int32)) = Int32.ofNat (i + 1) from own_addn _ _]
          refine XS.goto X12.here hx rfl (pc0 := 29) (pc' := 8) rfl (hb hby d26_29) (by decide) (by decide) ?_
          exact kt
        refine ih (i + 1) B12 _ _ _ (by omega) (by omega) (own_put_step hB Pu12) X12 rfl N12 K12 Z12 G13 G14 V12q (fun tg kt => ?_)
        refine pp6 _ ?_
        refine st8 _ ?_
        refine st10 _ ?_
        refine st11 _ ?_
        show Steps p.tables e below (Tp6.setTop (mkF m 20 #[.val (.ref a1), .val (.int (Int32.ofNat i)), .val (.int (Int32.ofNat N)), .val (.ref b2), .val (.int (Int32.ofNat i))] [(.int (C i)), (.int (Int32.ofNat i)), (.ref b2)])) _
        refine st12 _ ?_
        refine st15 _ ?_
        exact kt
      · -- pc 11: not (Int32.ofNat i) < (Int32.ofNat N)
        have hc11_7n : ¬ i < N := fun q => hc11_7 ((own_lt (by omega) (by omega)).mpr q)
        have st16 : ∀ tg, Steps p.tables e below (Tp6.setTop (mkF m 33 #[.val (.ref a1), .val (.int (Int32.ofNat i)), .val (.int (Int32.ofNat N)), .val (.ref b2), .val (.int (Int32.ofNat i))] [(.ref b2)])) tg → Steps p.tables e below (Tp6.setTop (mkF m 11 #[.val (.ref a1), .val (.int (Int32.ofNat i)), .val (.int (Int32.ofNat N)), .val (.ref b2), .val (.int (Int32.ofNat i))] [(.int (Int32.ofNat N)), (.int (Int32.ofNat i))])) tg := by
          intro tg kt
          refine XS.icmpYes Xp6.here hx rfl (pc0 := 11) (pc' := 32) rfl (hb hby d26_11) rfl (XT.ii_ge_t hc11_7) (by decide) (by decide) ?_
          refine XS.aloadN Xp6.here hx rfl (hb hby d26_32) rfl rfl ?_
          exact kt
        obtain ⟨fs, hr, hrun, hended, hW, hsame⟩ := Xp6.leave (v := some (.ref b2)) (fun h => by rw [Bd.returns] at h; cases h)
        refine hG ⟨_, _, pp6 _ ?_, hrun, hended, _, _, rfl, ?_, ⟨_, rfl⟩, hW, hsame.mono (by decide) (by decide)⟩
        · refine st8 _ ?_
          refine st16 _ ?_
          show Steps p.tables e below (Tp6.setTop (mkF m 33 #[.val (.ref a1), .val (.int (Int32.ofNat i)), .val (.int (Int32.ofNat N)), .val (.ref b2), .val (.int (Int32.ofNat i))] [(.ref b2)])) _
          exact retOut Xp6 hx Bd.returns rfl (Or.inr (Or.inr (Or.inr (Or.inr ⟨rfl, rfl, rfl⟩)))) (hb hby d26_33) hr
        · show Q26 Z a1 N C h0 n0 _ Tp6.heap _
          rw [ep6]
          exact ⟨b2, rfl, Np6, Kp6, g_b2, sz_b2, _, Gp6_2, fun t ht => hB t (by omega)⟩
  refine lp6 (N + 1) 0 (fun _ => (0 : Int32)) _ _ _ (by omega) (Nat.zero_le _) (fun t h => absurd h (Nat.not_lt_zero _)) X2 rfl N2 K2 Z2 G3 G4 Gm2 (fun tg kt => ?_)
  refine pre0 _ ?_
  refine st1 _ ?_
  show Steps p.tables e below (s₁.setTop (mkF m 1 #[.val (.ref a1), .val (.int (0 : Int32)), .val (.int (Int32.ofNat N)), .unset, .unset] [(.int (Int32.ofNat N))])) _
  refine st2 _ ?_
  refine st5 _ ?_
  exact kt
theorem d21_0 : decode jdk_52_method_21_code 0 = .ok (.iconst 0, 1) := by decide +kernel
theorem d21_1 : decode jdk_52_method_21_code 1 = .ok (.istore 5, 2) := by decide +kernel
theorem d21_3 : decode jdk_52_method_21_code 3 = .ok (.iload 5, 2) := by decide +kernel
theorem d21_5 : decode jdk_52_method_21_code 5 = .ok (.iload 4, 2) := by decide +kernel
theorem d21_7 : decode jdk_52_method_21_code 7 = .ok (.if_icmp .ge 37, 3) := by decide +kernel
theorem d21_10 : decode jdk_52_method_21_code 10 = .ok (.aload_n 0, 1) := by decide +kernel
theorem d21_11 : decode jdk_52_method_21_code 11 = .ok (.iload_n 1, 1) := by decide +kernel
theorem d21_12 : decode jdk_52_method_21_code 12 = .ok (.caload, 1) := by decide +kernel
theorem d21_13 : decode jdk_52_method_21_code 13 = .ok (.istore 6, 2) := by decide +kernel
theorem d21_15 : decode jdk_52_method_21_code 15 = .ok (.iload 6, 2) := by decide +kernel
theorem d21_17 : decode jdk_52_method_21_code 17 = .ok (.sipush 255, 3) := by decide +kernel
theorem d21_20 : decode jdk_52_method_21_code 20 = .ok (.if_icmp .le 6, 3) := by decide +kernel
theorem d21_23 : decode jdk_52_method_21_code 23 = .ok (.iload 5, 2) := by decide +kernel
theorem d21_25 : decode jdk_52_method_21_code 25 = .ok (.ireturn, 1) := by decide +kernel
theorem d21_26 : decode jdk_52_method_21_code 26 = .ok (.aload_n 2, 1) := by decide +kernel
theorem d21_27 : decode jdk_52_method_21_code 27 = .ok (.iload_n 3, 1) := by decide +kernel
theorem d21_28 : decode jdk_52_method_21_code 28 = .ok (.iload 6, 2) := by decide +kernel
theorem d21_30 : decode jdk_52_method_21_code 30 = .ok (.i2b, 1) := by decide +kernel
theorem d21_31 : decode jdk_52_method_21_code 31 = .ok (.bastore, 1) := by decide +kernel
theorem d21_32 : decode jdk_52_method_21_code 32 = .ok (.iinc 1 1, 3) := by decide +kernel
theorem d21_35 : decode jdk_52_method_21_code 35 = .ok (.iinc 3 1, 3) := by decide +kernel
theorem d21_38 : decode jdk_52_method_21_code 38 = .ok (.iinc 5 1, 3) := by decide +kernel
theorem d21_41 : decode jdk_52_method_21_code 41 = .ok (.goto (-38), 3) := by decide +kernel
theorem d21_44 : decode jdk_52_method_21_code 44 = .ok (.iload 4, 2) := by decide +kernel
theorem d21_46 : decode jdk_52_method_21_code 46 = .ok (.ireturn, 1) := by decide +kernel
theorem pn_21 : plainName "java/lang/StringUTF16" = true := by first | (simp [plainName, overriddenIn]; done) | decide +kernel
theorem ef_21 (m : MethodId) (a1 : Addr) (a3 : Addr) (y4 : Int32) : entryFrame m #[(.ref a1), (.int (0 : Int32)), (.ref a3), (.int (0 : Int32)), (.int y4)] 7 = mkF m 0 #[.val (.ref a1), .val (.int (0 : Int32)), .val (.ref a3), .val (.int (0 : Int32)), .val (.int y4), .unset, .unset] [] := by first | (simp [entryFrame, mkF, argsToLocals, Value.category]; done) | rfl
def Q21 (Z : State) (a1 : Addr) (a3 : Addr) (N : Nat) (C : Nat → Int32) (B0 : Nat → Int32) (h0 : Heap) (n0 : Nat) (v : Option Value) (h : Heap) (L : List Loc) : Prop := ∃ r : Int32, v = some (.int r) ∧ Fr n0 L ∧ Keep h0 h [a3] ∧ ((r = Int32.ofNat N ∧ (∀ t, t < N → ¬ (255 : Int32) < C t) ∧ ∃ B2 : Nat → Int32, ArF Z h a3 .byte N B2 ∧ ∀ t, t < N → B2 t = Lo8 (C t)) ∨ ∃ j, r = Int32.ofNat j ∧ j < N ∧ (255 : Int32) < C j)
set_option maxRecDepth 65536 in
set_option maxHeartbeats 40000000 in
theorem rm21 (l : Launch) (Z : State) (a0 : Array Value) (hw : ∀ d ∈ tables_1, d.before a0 Z = true) (ws : List Jvm.Cond) (a1 : Addr) (a3 : Addr) (N : Nat) (C : Nat → Int32) (B0 : Nat → Int32) (h0 : Heap) (n0 : Nat) (Z0 : n0 ≤ h0.size) (hN5 : N ≤ 5) (FA : ArF Z h0 a1 .char N C) (FB : ArF Z h0 a3 .byte N B0) (ne13 : a1 ≠ a3) (g_a3 : n0 ≤ a3) :
    MetFree l (⟨"java/lang/StringUTF16", "compress", "([CI[BII)I"⟩ : MethodName) (head1 (Jvm.Cond.code (⟨"java/lang/StringUTF16", "compress", "([CI[BII)I"⟩ : MethodName) jdk_52_method_21_code 7 (some .int) :: ws) ({ frames := 0, cells := 0, slots := 0, locals := 0 } : Room)) (fun a U => a = #[(.ref a1), (.int (0 : Int32)), (.ref a3), (.int (0 : Int32)), (.int (Int32.ofNat N))] ∧ Z.Warmed39 U.vm ∧ U.heap = h0) (fun _ _ _ _ _ => True) (fun _ U oo U' => ∃ v L, oo = .returned v ∧ Q21 Z a1 a3 N C B0 h0 n0 v U'.heap L ∧ FrameEnd U oo U' L ({ frames := 0, cells := 0, slots := 0, locals := 0 } : Room).cells ({ frames := 0, cells := 0, slots := 0, locals := 0 } : Room).slots) := by
  refine MetFree.of_bodySF (plainFor_of_name pn_21) hisR ?_
  intro p e s m args below meth c s₁ Bd hml0 hP hK
  obtain ⟨rfl, hZ, hh⟩ := hP
  have hx := Bd.exec
  have hby := Bd.bytes
  have hml : c.maxLocals = 7 := hml0
  have hown : s.vm.findClass "java/lang/StringUTF16" = some m.cls := findClass_of_methodNamed Bd.named
  have hnm := (name_of_methodNamed Bd.named Bd.method).1
  have X0 : Stand p l e ({ frames := 0, cells := 0, slots := 0, locals := 0 } : Room) s m #[(.ref a1), (.int (0 : Int32)), (.ref a3), (.int (0 : Int32)), (.int (Int32.ofNat N))] below meth c s₁ [] 0 0 := Stand.of_body Bd
  have e0 : s₁.heap = h0 := by rw [← hh, Bd.state]; rfl
  have N0 := Fr.nil n0
  have K0 : Keep h0 h0 [a3] := Keep.refl _ _
  have pre0 : ∀ tg, Steps p.tables e below (s₁.setTop (mkF m 0 #[.val (.ref a1), .val (.int (0 : Int32)), .val (.ref a3), .val (.int (0 : Int32)), .val (.int (Int32.ofNat N)), .unset, .unset] [])) tg → Steps p.tables e below (s₁.setTop (entryFrame m #[(.ref a1), (.int (0 : Int32)), (.ref a3), (.int (0 : Int32)), (.int (Int32.ofNat N))] 7)) tg := fun tg k => castTop (ef_21 m a1 a3 (Int32.ofNat N)) k
  refine Classical.byContradiction fun hG => ?_
  have st1 : ∀ tg, Steps p.tables e below (s₁.setTop (mkF m 3 #[.val (.ref a1), .val (.int (0 : Int32)), .val (.ref a3), .val (.int (0 : Int32)), .val (.int (Int32.ofNat N)), .val (.int (0 : Int32)), .unset] [])) tg → Steps p.tables e below (s₁.setTop (mkF m 0 #[.val (.ref a1), .val (.int (0 : Int32)), .val (.ref a3), .val (.int (0 : Int32)), .val (.int (Int32.ofNat N)), .unset, .unset] [])) tg := by
    intro tg kt
    refine XS.iconst X0.here hx rfl (hb hby d21_0) ?_
    refine XS.istore X0.here hx rfl (hb hby d21_1) rfl (l' := #[.val (.ref a1), .val (.int (0 : Int32)), .val (.ref a3), .val (.int (0 : Int32)), .val (.int (Int32.ofNat N)), .val (.int (0 : Int32)), .unset]) rfl ?_
    exact kt
  have lp2 : ∀ (k : Nat) (i : Nat) (B : Nat → Int32) (sl : Slot) (Tp2 : State) (lc2 : List Loc) (hp2 : Heap), (N < i + k) → (i ≤ N) → (∀ t, t < i → B t = Lo8 (C t) ∧ ¬ (255 : Int32) < C t) → (sl = .unset ∨ ∃ x : Int32, sl = .val (.int x)) → Stand p l e ({ frames := 0, cells := 0, slots := 0, locals := 0 } : Room) s m #[(.ref a1), (.int (0 : Int32)), (.ref a3), (.int (0 : Int32)), (.int (Int32.ofNat N))] below meth c Tp2 lc2 0 0 → Tp2.heap = hp2 → Fr n0 lc2 → Keep h0 hp2 [a3] → n0 ≤ hp2.size → ArF Z hp2 a1 .char N C → ArF Z hp2 a3 .byte N B → (∀ tg, Steps p.tables e below (Tp2.setTop (mkF m 3 #[.val (.ref a1), .val (.int (Int32.ofNat i)), .val (.ref a3), .val (.int (Int32.ofNat i)), .val (.int (Int32.ofNat N)), .val (.int (Int32.ofNat i)), sl] [])) tg → Steps p.tables e below (s₁.setTop (entryFrame m #[(.ref a1), (.int (0 : Int32)), (.ref a3), (.int (0 : Int32)), (.int (Int32.ofNat N))] 7)) tg) → False := by
    intro k
    induction k with
    | zero =>
      intro i B sl Tp2 lc2 hp2 hk hi hB hsl
      intros; exfalso; omega
    | succ k ih =>
      intro i B sl Tp2 lc2 hp2 hk hi hB hsl Xp2 ep2 Np2 Kp2 Zp2 Gp2_0 Gp2_1 pp2
      rcases hsl with rfl | ⟨x, rfl⟩
      · -- the local so far
        have st4 : ∀ tg, Steps p.tables e below (Tp2.setTop (mkF m 7 #[.val (.ref a1), .val (.int (Int32.ofNat i)), .val (.ref a3), .val (.int (Int32.ofNat i)), .val (.int (Int32.ofNat N)), .val (.int (Int32.ofNat i)), .unset] [(.int (Int32.ofNat N)), (.int (Int32.ofNat i))])) tg → Steps p.tables e below (Tp2.setTop (mkF m 3 #[.val (.ref a1), .val (.int (Int32.ofNat i)), .val (.ref a3), .val (.int (Int32.ofNat i)), .val (.int (Int32.ofNat N)), .val (.int (Int32.ofNat i)), .unset] [])) tg := by
          intro tg kt
          refine XS.iload Xp2.here hx rfl (hb hby d21_3) rfl ?_
          refine XS.iload Xp2.here hx rfl (hb hby d21_5) rfl ?_
          exact kt
        by_cases hc7_3 : (Int32.ofNat i) < (Int32.ofNat N)
        · -- pc 7: (Int32.ofNat i) < (Int32.ofNat N)
          have hc7_3n : i < N := (own_lt (by omega) (by omega)).mp hc7_3
          have st6 : ∀ tg, Steps p.tables e below (Tp2.setTop (mkF m 12 #[.val (.ref a1), .val (.int (Int32.ofNat i)), .val (.ref a3), .val (.int (Int32.ofNat i)), .val (.int (Int32.ofNat N)), .val (.int (Int32.ofNat i)), .unset] [(.int (Int32.ofNat i)), (.ref a1)])) tg → Steps p.tables e below (Tp2.setTop (mkF m 7 #[.val (.ref a1), .val (.int (Int32.ofNat i)), .val (.ref a3), .val (.int (Int32.ofNat i)), .val (.int (Int32.ofNat N)), .val (.int (Int32.ofNat i)), .unset] [(.int (Int32.ofNat N)), (.int (Int32.ofNat i))])) tg := by
            intro tg kt
            refine XS.icmpNo Xp2.here hx rfl (hb hby d21_7) rfl (XT.ii_ge_f hc7_3) ?_
            refine XS.aloadN Xp2.here hx rfl (hb hby d21_10) rfl rfl ?_
            refine XS.iloadN Xp2.here hx rfl (hb hby d21_11) rfl ?_
            exact kt
          obtain ⟨cl5, Ar5, Sa5, Ha5⟩ := id Gp2_0
          have hin5 : ¬ (Int32.ofNat i < 0 ∨ cl5.slots.size ≤ (Int32.ofNat i).toNatClampNeg) := own_in (by omega) (by omega) Sa5
          have hat5 : cl5.slots[(Int32.ofNat i).toNatClampNeg]? = some (.int (C i)) := own_at (by omega) (by omega) Ha5
          have st8 : ∀ tg, Steps p.tables e below (Tp2.setTop (mkF m 20 #[.val (.ref a1), .val (.int (Int32.ofNat i)), .val (.ref a3), .val (.int (Int32.ofNat i)), .val (.int (Int32.ofNat N)), .val (.int (Int32.ofNat i)), .val (.int (C i))] [(.int (255 : Int32)), (.int (C i))])) tg → Steps p.tables e below (Tp2.setTop (mkF m 12 #[.val (.ref a1), .val (.int (Int32.ofNat i)), .val (.ref a3), .val (.int (Int32.ofNat i)), .val (.int (Int32.ofNat N)), .val (.int (Int32.ofNat i)), .unset] [(.int (Int32.ofNat i)), (.ref a1)])) tg := by
            intro tg kt
            refine Xp2.caload hx (j := Int32.ofNat i) (v := (.int (C i))) (by rw [ep2]; exact Ar5.1) (State.isArrayOf_alike hZ.alike Ar5.2.1) Ar5.2.2 hin5 hat5 (g := (mkF m 12 #[.val (.ref a1), .val (.int (Int32.ofNat i)), .val (.ref a3), .val (.int (Int32.ofNat i)), .val (.int (Int32.ofNat N)), .val (.int (Int32.ofNat i)), .unset] [(.int (Int32.ofNat i)), (.ref a1)])) rfl rfl (hb hby d21_12) _ ?_
            refine XS.istore Xp2.here hx rfl (hb hby d21_13) rfl (l' := #[.val (.ref a1), .val (.int (Int32.ofNat i)), .val (.ref a3), .val (.int (Int32.ofNat i)), .val (.int (Int32.ofNat N)), .val (.int (Int32.ofNat i)), .val (.int (C i))]) rfl ?_
            refine XS.iload Xp2.here hx rfl (hb hby d21_15) rfl ?_
            refine XS.sipush Xp2.here hx rfl (hb hby d21_17) ?_
            exact kt
          by_cases hc20_7 : (255 : Int32) < (C i)
          · -- pc 20: (255 : Int32) < (C i)
            have st9 : ∀ tg, Steps p.tables e below (Tp2.setTop (mkF m 25 #[.val (.ref a1), .val (.int (Int32.ofNat i)), .val (.ref a3), .val (.int (Int32.ofNat i)), .val (.int (Int32.ofNat N)), .val (.int (Int32.ofNat i)), .val (.int (C i))] [(.int (Int32.ofNat i))])) tg → Steps p.tables e below (Tp2.setTop (mkF m 20 #[.val (.ref a1), .val (.int (Int32.ofNat i)), .val (.ref a3), .val (.int (Int32.ofNat i)), .val (.int (Int32.ofNat N)), .val (.int (Int32.ofNat i)), .val (.int (C i))] [(.int (255 : Int32)), (.int (C i))])) tg := by
              intro tg kt
              refine XS.icmpNo Xp2.here hx rfl (hb hby d21_20) rfl (XT.ii_le_f hc20_7) ?_
              refine XS.iload Xp2.here hx rfl (hb hby d21_23) rfl ?_
              exact kt
            obtain ⟨fs, hr, hrun, hended, hW, hsame⟩ := Xp2.leave (v := some (.int (Int32.ofNat i))) (fun h => by rw [Bd.returns] at h; cases h)
            refine hG ⟨_, _, pp2 _ ?_, hrun, hended, _, _, rfl, ?_, ⟨_, rfl⟩, hW, hsame.mono (by decide) (by decide)⟩
            · refine st4 _ ?_
              refine st6 _ ?_
              refine st8 _ ?_
              refine st9 _ ?_
              show Steps p.tables e below (Tp2.setTop (mkF m 25 #[.val (.ref a1), .val (.int (Int32.ofNat i)), .val (.ref a3), .val (.int (Int32.ofNat i)), .val (.int (Int32.ofNat N)), .val (.int (Int32.ofNat i)), .val (.int (C i))] [(.int (Int32.ofNat i))])) _
              exact retI Xp2 hx Bd.returns (hb hby d21_25) hr
            · show Q21 Z a1 a3 N C B0 h0 n0 _ Tp2.heap _
              rw [ep2]
              exact ⟨_, rfl, Np2, Kp2, Or.inr ⟨i, rfl, by omega, hc20_7⟩⟩
          · -- pc 20: not (255 : Int32) < (C i)
            have st10 : ∀ tg, Steps p.tables e below (Tp2.setTop (mkF m 31 #[.val (.ref a1), .val (.int (Int32.ofNat i)), .val (.ref a3), .val (.int (Int32.ofNat i)), .val (.int (Int32.ofNat N)), .val (.int (Int32.ofNat i)), .val (.int (C i))] [(.int ((C i).toInt8.toInt32)), (.int (Int32.ofNat i)), (.ref a3)])) tg → Steps p.tables e below (Tp2.setTop (mkF m 20 #[.val (.ref a1), .val (.int (Int32.ofNat i)), .val (.ref a3), .val (.int (Int32.ofNat i)), .val (.int (Int32.ofNat N)), .val (.int (Int32.ofNat i)), .val (.int (C i))] [(.int (255 : Int32)), (.int (C i))])) tg := by
              intro tg kt
              refine XS.icmpYes Xp2.here hx rfl (pc0 := 20) (pc' := 26) rfl (hb hby d21_20) rfl (XT.ii_le_t hc20_7) (by decide) (by decide) ?_
              refine XS.aloadN Xp2.here hx rfl (hb hby d21_26) rfl rfl ?_
              refine XS.iloadN Xp2.here hx rfl (hb hby d21_27) rfl ?_
              refine XS.iload Xp2.here hx rfl (hb hby d21_28) rfl ?_
              show Steps p.tables e below (Tp2.setTop (mkF m 30 #[.val (.ref a1), .val (.int (Int32.ofNat i)), .val (.ref a3), .val (.int (Int32.ofNat i)), .val (.int (Int32.ofNat N)), .val (.int (Int32.ofNat i)), .val (.int (C i))] [(.int (C i)), (.int (Int32.ofNat i)), (.ref a3)])) tg
              refine XS.i2b Xp2.here hx rfl (hb hby d21_30) rfl ?_
              exact kt
            obtain ⟨cl11, Ar11, Sa11, Ha11⟩ := id Gp2_1
            have hin11 : ¬ (Int32.ofNat i < 0 ∨ cl11.slots.size ≤ (Int32.ofNat i).toNatClampNeg) := own_in (by omega) (by omega) Sa11
            obtain ⟨T12, h12, X12, e12, W12, st12⟩ := stB Xp2 hx hZ ep2 Ar11 (j := Int32.ofNat i) hin11 (g := (mkF m 31 #[.val (.ref a1), .val (.int (Int32.ofNat i)), .val (.ref a3), .val (.int (Int32.ofNat i)), .val (.int (Int32.ofNat N)), .val (.int (Int32.ofNat i)), .val (.int (C i))] [(.int ((C i).toInt8.toInt32)), (.int (Int32.ofNat i)), (.ref a3)])) rfl rfl (hb hby d21_31)
            have N12 := Fr.snoc X12 Np2 g_a3
            have K12 : Keep h0 h12 [a3] := Kp2.wr W12 (Or.inl (List.mem_of_getElem? (i := 0) rfl))
            have Z12 : n0 ≤ h12.size := Nat.le_trans Zp2 (Keep.of_wr W12).1
            have G13 : ArF Z h12 a1 .char N C := Gp2_0.other W12 ne13
            have G14 : ArF Z h12 a3 .byte N (fun t => if t = i then (nar .byte ((C i).toInt8.toInt32)) else B t) := ArF.set Ar11 Sa11 Ha11 (by omega) (by omega) W12
            have st15 : ∀ tg, Steps p.tables e below (T12.setTop (mkF m 3 #[.val (.ref a1), .val (.int (Int32.ofNat (i + 1))), .val (.ref a3), .val (.int (Int32.ofNat (i + 1))), .val (.int (Int32.ofNat N)), .val (.int (Int32.ofNat (i + 1))), .val (.int (C i))] [])) tg → Steps p.tables e below (T12.setTop (mkF m 32 #[.val (.ref a1), .val (.int (Int32.ofNat i)), .val (.ref a3), .val (.int (Int32.ofNat i)), .val (.int (Int32.ofNat N)), .val (.int (Int32.ofNat i)), .val (.int (C i))] [])) tg := by
              intro tg kt
              refine XS.iinc X12.here hx rfl (hb hby d21_32) rfl (l' := #[.val (.ref a1), .val (.int (Int32.ofNat i + (1 : Int32))), .val (.ref a3), .val (.int (Int32.ofNat i)), .val (.int (Int32.ofNat N)), .val (.int (Int32.ofNat i)), .val (.int (C i))]) rfl ?_
              rw [show (Int32.ofNat i + (1 : Int32)) = Int32.ofNat (i + 1) from own_addn _ _]
              refine XS.iinc X12.here hx rfl (hb hby d21_35) rfl (l' := #[.val (.ref a1), .val (.int (Int32.ofNat (i + 1))), .val (.ref a3), .val (.int (Int32.ofNat i + (1 : Int32))), .val (.int (Int32.ofNat N)), .val (.int (Int32.ofNat i)), .val (.int (C i))]) rfl ?_
              rw [show (Int32.ofNat i + (1 : Int32)) = Int32.ofNat (i + 1) from own_addn _ _]
              refine XS.iinc X12.here hx rfl (hb hby d21_38) rfl (l' := #[.val (.ref a1), .val (.int (Int32.ofNat (i + 1))), .val (.ref a3), .val (.int (Int32.ofNat (i + 1))), .val (.int (Int32.ofNat N)), .val (.int (Int32.ofNat i + (1 : Int32))), .val (.int (C i))]) rfl ?_
              rw [show (Int32.ofNat i + (1 : Int32)) = Int32.ofNat (i + 1) from own_addn _ _]
              refine XS.goto X12.here hx rfl (pc0 := 41) (pc' := 3) rfl (hb hby d21_41) (by decide) (by decide) ?_
              exact kt
            refine ih (i + 1) (fun t => if t = i then (nar .byte ((C i).toInt8.toInt32)) else B t) (.val (.int (C i))) _ _ _ (by omega) (by omega) (own_b_step hB hc20_7) (Or.inr ⟨_, rfl⟩) X12 e12 N12 K12 Z12 G13 G14 (fun tg kt => ?_)
            refine pp2 _ ?_
            refine st4 _ ?_
            refine st6 _ ?_
            refine st8 _ ?_
            refine st10 _ ?_
            show Steps p.tables e below (Tp2.setTop (mkF m 31 #[.val (.ref a1), .val (.int (Int32.ofNat i)), .val (.ref a3), .val (.int (Int32.ofNat i)), .val (.int (Int32.ofNat N)), .val (.int (Int32.ofNat i)), .val (.int (C i))] [(.int ((C i).toInt8.toInt32)), (.int (Int32.ofNat i)), (.ref a3)])) _
            refine st12 _ ?_
            refine st15 _ ?_
            exact kt
        · -- pc 7: not (Int32.ofNat i) < (Int32.ofNat N)
          have hc7_3n : ¬ i < N := fun q => hc7_3 ((own_lt (by omega) (by omega)).mpr q)
          have st16 : ∀ tg, Steps p.tables e below (Tp2.setTop (mkF m 46 #[.val (.ref a1), .val (.int (Int32.ofNat i)), .val (.ref a3), .val (.int (Int32.ofNat i)), .val (.int (Int32.ofNat N)), .val (.int (Int32.ofNat i)), .unset] [(.int (Int32.ofNat N))])) tg → Steps p.tables e below (Tp2.setTop (mkF m 7 #[.val (.ref a1), .val (.int (Int32.ofNat i)), .val (.ref a3), .val (.int (Int32.ofNat i)), .val (.int (Int32.ofNat N)), .val (.int (Int32.ofNat i)), .unset] [(.int (Int32.ofNat N)), (.int (Int32.ofNat i))])) tg := by
            intro tg kt
            refine XS.icmpYes Xp2.here hx rfl (pc0 := 7) (pc' := 44) rfl (hb hby d21_7) rfl (XT.ii_ge_t hc7_3) (by decide) (by decide) ?_
            refine XS.iload Xp2.here hx rfl (hb hby d21_44) rfl ?_
            exact kt
          obtain ⟨fs, hr, hrun, hended, hW, hsame⟩ := Xp2.leave (v := some (.int (Int32.ofNat N))) (fun h => by rw [Bd.returns] at h; cases h)
          refine hG ⟨_, _, pp2 _ ?_, hrun, hended, _, _, rfl, ?_, ⟨_, rfl⟩, hW, hsame.mono (by decide) (by decide)⟩
          · refine st4 _ ?_
            refine st16 _ ?_
            show Steps p.tables e below (Tp2.setTop (mkF m 46 #[.val (.ref a1), .val (.int (Int32.ofNat i)), .val (.ref a3), .val (.int (Int32.ofNat i)), .val (.int (Int32.ofNat N)), .val (.int (Int32.ofNat i)), .unset] [(.int (Int32.ofNat N))])) _
            exact retI Xp2 hx Bd.returns (hb hby d21_46) hr
          · show Q21 Z a1 a3 N C B0 h0 n0 _ Tp2.heap _
            rw [ep2]
            exact ⟨_, rfl, Np2, Kp2, Or.inl ⟨rfl, fun t ht => (hB t (by omega)).2, _, Gp2_1, fun t ht => (hB t (by omega)).1⟩⟩
      · -- the local so far
        have st18 : ∀ tg, Steps p.tables e below (Tp2.setTop (mkF m 7 #[.val (.ref a1), .val (.int (Int32.ofNat i)), .val (.ref a3), .val (.int (Int32.ofNat i)), .val (.int (Int32.ofNat N)), .val (.int (Int32.ofNat i)), .val (.int x)] [(.int (Int32.ofNat N)), (.int (Int32.ofNat i))])) tg → Steps p.tables e below (Tp2.setTop (mkF m 3 #[.val (.ref a1), .val (.int (Int32.ofNat i)), .val (.ref a3), .val (.int (Int32.ofNat i)), .val (.int (Int32.ofNat N)), .val (.int (Int32.ofNat i)), .val (.int x)] [])) tg := by
          intro tg kt
          refine XS.iload Xp2.here hx rfl (hb hby d21_3) rfl ?_
          refine XS.iload Xp2.here hx rfl (hb hby d21_5) rfl ?_
          exact kt
        by_cases hc7_17 : (Int32.ofNat i) < (Int32.ofNat N)
        · -- pc 7: (Int32.ofNat i) < (Int32.ofNat N)
          have hc7_17n : i < N := (own_lt (by omega) (by omega)).mp hc7_17
          have st20 : ∀ tg, Steps p.tables e below (Tp2.setTop (mkF m 12 #[.val (.ref a1), .val (.int (Int32.ofNat i)), .val (.ref a3), .val (.int (Int32.ofNat i)), .val (.int (Int32.ofNat N)), .val (.int (Int32.ofNat i)), .val (.int x)] [(.int (Int32.ofNat i)), (.ref a1)])) tg → Steps p.tables e below (Tp2.setTop (mkF m 7 #[.val (.ref a1), .val (.int (Int32.ofNat i)), .val (.ref a3), .val (.int (Int32.ofNat i)), .val (.int (Int32.ofNat N)), .val (.int (Int32.ofNat i)), .val (.int x)] [(.int (Int32.ofNat N)), (.int (Int32.ofNat i))])) tg := by
            intro tg kt
            refine XS.icmpNo Xp2.here hx rfl (hb hby d21_7) rfl (XT.ii_ge_f hc7_17) ?_
            refine XS.aloadN Xp2.here hx rfl (hb hby d21_10) rfl rfl ?_
            refine XS.iloadN Xp2.here hx rfl (hb hby d21_11) rfl ?_
            exact kt
          obtain ⟨cl19, Ar19, Sa19, Ha19⟩ := id Gp2_0
          have hin19 : ¬ (Int32.ofNat i < 0 ∨ cl19.slots.size ≤ (Int32.ofNat i).toNatClampNeg) := own_in (by omega) (by omega) Sa19
          have hat19 : cl19.slots[(Int32.ofNat i).toNatClampNeg]? = some (.int (C i)) := own_at (by omega) (by omega) Ha19
          have st22 : ∀ tg, Steps p.tables e below (Tp2.setTop (mkF m 20 #[.val (.ref a1), .val (.int (Int32.ofNat i)), .val (.ref a3), .val (.int (Int32.ofNat i)), .val (.int (Int32.ofNat N)), .val (.int (Int32.ofNat i)), .val (.int (C i))] [(.int (255 : Int32)), (.int (C i))])) tg → Steps p.tables e below (Tp2.setTop (mkF m 12 #[.val (.ref a1), .val (.int (Int32.ofNat i)), .val (.ref a3), .val (.int (Int32.ofNat i)), .val (.int (Int32.ofNat N)), .val (.int (Int32.ofNat i)), .val (.int x)] [(.int (Int32.ofNat i)), (.ref a1)])) tg := by
            intro tg kt
            refine Xp2.caload hx (j := Int32.ofNat i) (v := (.int (C i))) (by rw [ep2]; exact Ar19.1) (State.isArrayOf_alike hZ.alike Ar19.2.1) Ar19.2.2 hin19 hat19 (g := (mkF m 12 #[.val (.ref a1), .val (.int (Int32.ofNat i)), .val (.ref a3), .val (.int (Int32.ofNat i)), .val (.int (Int32.ofNat N)), .val (.int (Int32.ofNat i)), .val (.int x)] [(.int (Int32.ofNat i)), (.ref a1)])) rfl rfl (hb hby d21_12) _ ?_
            refine XS.istore Xp2.here hx rfl (hb hby d21_13) rfl (l' := #[.val (.ref a1), .val (.int (Int32.ofNat i)), .val (.ref a3), .val (.int (Int32.ofNat i)), .val (.int (Int32.ofNat N)), .val (.int (Int32.ofNat i)), .val (.int (C i))]) rfl ?_
            refine XS.iload Xp2.here hx rfl (hb hby d21_15) rfl ?_
            refine XS.sipush Xp2.here hx rfl (hb hby d21_17) ?_
            exact kt
          by_cases hc20_21 : (255 : Int32) < (C i)
          · -- pc 20: (255 : Int32) < (C i)
            have st23 : ∀ tg, Steps p.tables e below (Tp2.setTop (mkF m 25 #[.val (.ref a1), .val (.int (Int32.ofNat i)), .val (.ref a3), .val (.int (Int32.ofNat i)), .val (.int (Int32.ofNat N)), .val (.int (Int32.ofNat i)), .val (.int (C i))] [(.int (Int32.ofNat i))])) tg → Steps p.tables e below (Tp2.setTop (mkF m 20 #[.val (.ref a1), .val (.int (Int32.ofNat i)), .val (.ref a3), .val (.int (Int32.ofNat i)), .val (.int (Int32.ofNat N)), .val (.int (Int32.ofNat i)), .val (.int (C i))] [(.int (255 : Int32)), (.int (C i))])) tg := by
              intro tg kt
              refine XS.icmpNo Xp2.here hx rfl (hb hby d21_20) rfl (XT.ii_le_f hc20_21) ?_
              refine XS.iload Xp2.here hx rfl (hb hby d21_23) rfl ?_
              exact kt
            obtain ⟨fs, hr, hrun, hended, hW, hsame⟩ := Xp2.leave (v := some (.int (Int32.ofNat i))) (fun h => by rw [Bd.returns] at h; cases h)
            refine hG ⟨_, _, pp2 _ ?_, hrun, hended, _, _, rfl, ?_, ⟨_, rfl⟩, hW, hsame.mono (by decide) (by decide)⟩
            · refine st18 _ ?_
              refine st20 _ ?_
              refine st22 _ ?_
              refine st23 _ ?_
              show Steps p.tables e below (Tp2.setTop (mkF m 25 #[.val (.ref a1), .val (.int (Int32.ofNat i)), .val (.ref a3), .val (.int (Int32.ofNat i)), .val (.int (Int32.ofNat N)), .val (.int (Int32.ofNat i)), .val (.int (C i))] [(.int (Int32.ofNat i))])) _
              exact retI Xp2 hx Bd.returns (hb hby d21_25) hr
            · show Q21 Z a1 a3 N C B0 h0 n0 _ Tp2.heap _
              rw [ep2]
              exact ⟨_, rfl, Np2, Kp2, Or.inr ⟨i, rfl, by omega, hc20_21⟩⟩
          · -- pc 20: not (255 : Int32) < (C i)
            have st24 : ∀ tg, Steps p.tables e below (Tp2.setTop (mkF m 31 #[.val (.ref a1), .val (.int (Int32.ofNat i)), .val (.ref a3), .val (.int (Int32.ofNat i)), .val (.int (Int32.ofNat N)), .val (.int (Int32.ofNat i)), .val (.int (C i))] [(.int ((C i).toInt8.toInt32)), (.int (Int32.ofNat i)), (.ref a3)])) tg → Steps p.tables e below (Tp2.setTop (mkF m 20 #[.val (.ref a1), .val (.int (Int32.ofNat i)), .val (.ref a3), .val (.int (Int32.ofNat i)), .val (.int (Int32.ofNat N)), .val (.int (Int32.ofNat i)), .val (.int (C i))] [(.int (255 : Int32)), (.int (C i))])) tg := by
              intro tg kt
              refine XS.icmpYes Xp2.here hx rfl (pc0 := 20) (pc' := 26) rfl (hb hby d21_20) rfl (XT.ii_le_t hc20_21) (by decide) (by decide) ?_
              refine XS.aloadN Xp2.here hx rfl (hb hby d21_26) rfl rfl ?_
              refine XS.iloadN Xp2.here hx rfl (hb hby d21_27) rfl ?_
              refine XS.iload Xp2.here hx rfl (hb hby d21_28) rfl ?_
              show Steps p.tables e below (Tp2.setTop (mkF m 30 #[.val (.ref a1), .val (.int (Int32.ofNat i)), .val (.ref a3), .val (.int (Int32.ofNat i)), .val (.int (Int32.ofNat N)), .val (.int (Int32.ofNat i)), .val (.int (C i))] [(.int (C i)), (.int (Int32.ofNat i)), (.ref a3)])) tg
              refine XS.i2b Xp2.here hx rfl (hb hby d21_30) rfl ?_
              exact kt
            obtain ⟨cl25, Ar25, Sa25, Ha25⟩ := id Gp2_1
            have hin25 : ¬ (Int32.ofNat i < 0 ∨ cl25.slots.size ≤ (Int32.ofNat i).toNatClampNeg) := own_in (by omega) (by omega) Sa25
            obtain ⟨T26, h26, X26, e26, W26, st26⟩ := stB Xp2 hx hZ ep2 Ar25 (j := Int32.ofNat i) hin25 (g := (mkF m 31 #[.val (.ref a1), .val (.int (Int32.ofNat i)), .val (.ref a3), .val (.int (Int32.ofNat i)), .val (.int (Int32.ofNat N)), .val (.int (Int32.ofNat i)), .val (.int (C i))] [(.int ((C i).toInt8.toInt32)), (.int (Int32.ofNat i)), (.ref a3)])) rfl rfl (hb hby d21_31)
            have N26 := Fr.snoc X26 Np2 g_a3
            have K26 : Keep h0 h26 [a3] := Kp2.wr W26 (Or.inl (List.mem_of_getElem? (i := 0) rfl))
            have Z26 : n0 ≤ h26.size := Nat.le_trans Zp2 (Keep.of_wr W26).1
            have G27 : ArF Z h26 a1 .char N C := Gp2_0.other W26 ne13
            have G28 : ArF Z h26 a3 .byte N (fun t => if t = i then (nar .byte ((C i).toInt8.toInt32)) else B t) := ArF.set Ar25 Sa25 Ha25 (by omega) (by omega) W26
            have st29 : ∀ tg, Steps p.tables e below (T26.setTop (mkF m 3 #[.val (.ref a1), .val (.int (Int32.ofNat (i + 1))), .val (.ref a3), .val (.int (Int32.ofNat (i + 1))), .val (.int (Int32.ofNat N)), .val (.int (Int32.ofNat (i + 1))), .val (.int (C i))] [])) tg → Steps p.tables e below (T26.setTop (mkF m 32 #[.val (.ref a1), .val (.int (Int32.ofNat i)), .val (.ref a3), .val (.int (Int32.ofNat i)), .val (.int (Int32.ofNat N)), .val (.int (Int32.ofNat i)), .val (.int (C i))] [])) tg := by
              intro tg kt
              refine XS.iinc X26.here hx rfl (hb hby d21_32) rfl (l' := #[.val (.ref a1), .val (.int (Int32.ofNat i + (1 : Int32))), .val (.ref a3), .val (.int (Int32.ofNat i)), .val (.int (Int32.ofNat N)), .val (.int (Int32.ofNat i)), .val (.int (C i))]) rfl ?_
              rw [show (Int32.ofNat i + (1 : Int32)) = Int32.ofNat (i + 1) from own_addn _ _]
              refine XS.iinc X26.here hx rfl (hb hby d21_35) rfl (l' := #[.val (.ref a1), .val (.int (Int32.ofNat (i + 1))), .val (.ref a3), .val (.int (Int32.ofNat i + (1 : Int32))), .val (.int (Int32.ofNat N)), .val (.int (Int32.ofNat i)), .val (.int (C i))]) rfl ?_
              rw [show (Int32.ofNat i + (1 : Int32)) = Int32.ofNat (i + 1) from own_addn _ _]
              refine XS.iinc X26.here hx rfl (hb hby d21_38) rfl (l' := #[.val (.ref a1), .val (.int (Int32.ofNat (i + 1))), .val (.ref a3), .val (.int (Int32.ofNat (i + 1))), .val (.int (Int32.ofNat N)), .val (.int (Int32.ofNat i + (1 : Int32))), .val (.int (C i))]) rfl ?_
              rw [show (Int32.ofNat i + (1 : Int32)) = Int32.ofNat (i + 1) from own_addn _ _]
              refine XS.goto X26.here hx rfl (pc0 := 41) (pc' := 3) rfl (hb hby d21_41) (by decide) (by decide) ?_
              exact kt
            refine ih (i + 1) (fun t => if t = i then (nar .byte ((C i).toInt8.toInt32)) else B t) (.val (.int (C i))) _ _ _ (by omega) (by omega) (own_b_step hB hc20_21) (Or.inr ⟨_, rfl⟩) X26 e26 N26 K26 Z26 G27 G28 (fun tg kt => ?_)
            refine pp2 _ ?_
            refine st18 _ ?_
            refine st20 _ ?_
            refine st22 _ ?_
            refine st24 _ ?_
            show Steps p.tables e below (Tp2.setTop (mkF m 31 #[.val (.ref a1), .val (.int (Int32.ofNat i)), .val (.ref a3), .val (.int (Int32.ofNat i)), .val (.int (Int32.ofNat N)), .val (.int (Int32.ofNat i)), .val (.int (C i))] [(.int ((C i).toInt8.toInt32)), (.int (Int32.ofNat i)), (.ref a3)])) _
            refine st26 _ ?_
            refine st29 _ ?_
            exact kt
        · -- pc 7: not (Int32.ofNat i) < (Int32.ofNat N)
          have hc7_17n : ¬ i < N := fun q => hc7_17 ((own_lt (by omega) (by omega)).mpr q)
          have st30 : ∀ tg, Steps p.tables e below (Tp2.setTop (mkF m 46 #[.val (.ref a1), .val (.int (Int32.ofNat i)), .val (.ref a3), .val (.int (Int32.ofNat i)), .val (.int (Int32.ofNat N)), .val (.int (Int32.ofNat i)), .val (.int x)] [(.int (Int32.ofNat N))])) tg → Steps p.tables e below (Tp2.setTop (mkF m 7 #[.val (.ref a1), .val (.int (Int32.ofNat i)), .val (.ref a3), .val (.int (Int32.ofNat i)), .val (.int (Int32.ofNat N)), .val (.int (Int32.ofNat i)), .val (.int x)] [(.int (Int32.ofNat N)), (.int (Int32.ofNat i))])) tg := by
            intro tg kt
            refine XS.icmpYes Xp2.here hx rfl (pc0 := 7) (pc' := 44) rfl (hb hby d21_7) rfl (XT.ii_ge_t hc7_17) (by decide) (by decide) ?_
            refine XS.iload Xp2.here hx rfl (hb hby d21_44) rfl ?_
            exact kt
          obtain ⟨fs, hr, hrun, hended, hW, hsame⟩ := Xp2.leave (v := some (.int (Int32.ofNat N))) (fun h => by rw [Bd.returns] at h; cases h)
          refine hG ⟨_, _, pp2 _ ?_, hrun, hended, _, _, rfl, ?_, ⟨_, rfl⟩, hW, hsame.mono (by decide) (by decide)⟩
          · refine st18 _ ?_
            refine st30 _ ?_
            show Steps p.tables e below (Tp2.setTop (mkF m 46 #[.val (.ref a1), .val (.int (Int32.ofNat i)), .val (.ref a3), .val (.int (Int32.ofNat i)), .val (.int (Int32.ofNat N)), .val (.int (Int32.ofNat i)), .val (.int x)] [(.int (Int32.ofNat N))])) _
            exact retI Xp2 hx Bd.returns (hb hby d21_46) hr
          · show Q21 Z a1 a3 N C B0 h0 n0 _ Tp2.heap _
            rw [ep2]
            exact ⟨_, rfl, Np2, Kp2, Or.inl ⟨rfl, fun t ht => (hB t (by omega)).2, _, Gp2_1, fun t ht => (hB t (by omega)).1⟩⟩
  refine lp2 (N + 1) 0 B0 .unset _ _ _ (by omega) (Nat.zero_le _) (fun t h => absurd h (Nat.not_lt_zero _)) (Or.inl rfl) X0 e0 N0 K0 Z0 FA FB (fun tg kt => ?_)
  refine pre0 _ ?_
  refine st1 _ ?_
  exact kt
theorem d20_0 : decode jdk_52_method_16_code 0 = .ok (.iload_n 2, 1) := by decide +kernel
theorem d20_1 : decode jdk_52_method_16_code 1 = .ok (.newarray .byte, 2) := by decide +kernel
theorem d20_3 : decode jdk_52_method_16_code 3 = .ok (.astore_n 3, 1) := by decide +kernel
theorem d20_4 : decode jdk_52_method_16_code 4 = .ok (.aload_n 0, 1) := by decide +kernel
theorem d20_5 : decode jdk_52_method_16_code 5 = .ok (.iload_n 1, 1) := by decide +kernel
theorem d20_6 : decode jdk_52_method_16_code 6 = .ok (.aload_n 3, 1) := by decide +kernel
theorem d20_7 : decode jdk_52_method_16_code 7 = .ok (.iconst 0, 1) := by decide +kernel
theorem d20_8 : decode jdk_52_method_16_code 8 = .ok (.iload_n 2, 1) := by decide +kernel
theorem d20_9 : decode jdk_52_method_16_code 9 = .ok (.invokestatic 115, 3) := by decide +kernel
theorem d20_12 : decode jdk_52_method_16_code 12 = .ok (.istore 4, 2) := by decide +kernel
theorem d20_14 : decode jdk_52_method_16_code 14 = .ok (.iload 4, 2) := by decide +kernel
theorem d20_16 : decode jdk_52_method_16_code 16 = .ok (.iload_n 2, 1) := by decide +kernel
theorem d20_17 : decode jdk_52_method_16_code 17 = .ok (.if_icmp .eq 40, 3) := by decide +kernel
theorem d20_20 : decode jdk_52_method_16_code 20 = .ok (.aload_n 0, 1) := by decide +kernel
theorem d20_21 : decode jdk_52_method_16_code 21 = .ok (.iload_n 1, 1) := by decide +kernel
theorem d20_22 : decode jdk_52_method_16_code 22 = .ok (.iload_n 2, 1) := by decide +kernel
theorem d20_23 : decode jdk_52_method_16_code 23 = .ok (.invokestatic 119, 3) := by decide +kernel
theorem d20_26 : decode jdk_52_method_16_code 26 = .ok (.astore 5, 2) := by decide +kernel
theorem d20_28 : decode jdk_52_method_16_code 28 = .ok (.aload 5, 2) := by decide +kernel
theorem d20_30 : decode jdk_52_method_16_code 30 = .ok (.iload 4, 2) := by decide +kernel
theorem d20_32 : decode jdk_52_method_16_code 32 = .ok (.invokestatic 71, 3) := by decide +kernel
theorem d20_35 : decode jdk_52_method_16_code 35 = .ok (.sipush 255, 3) := by decide +kernel
theorem d20_38 : decode jdk_52_method_16_code 38 = .ok (.if_icmp .gt 16, 3) := by decide +kernel
theorem d20_54 : decode jdk_52_method_16_code 54 = .ok (.aload 5, 2) := by decide +kernel
theorem d20_56 : decode jdk_52_method_16_code 56 = .ok (.areturn, 1) := by decide +kernel
theorem d20_57 : decode jdk_52_method_16_code 57 = .ok (.aload_n 3, 1) := by decide +kernel
theorem d20_58 : decode jdk_52_method_16_code 58 = .ok (.areturn, 1) := by decide +kernel
theorem pn_20 : plainName "java/lang/StringUTF16" = true := by first | (simp [plainName, overriddenIn]; done) | decide +kernel
theorem ef_20 (m : MethodId) (a1 : Addr) (y2 : Int32) : entryFrame m #[(.ref a1), (.int (0 : Int32)), (.int y2)] 6 = mkF m 0 #[.val (.ref a1), .val (.int (0 : Int32)), .val (.int y2), .unset, .unset, .unset] [] := by first | (simp [entryFrame, mkF, argsToLocals, Value.category]; done) | rfl
def Q20 (Z : State) (a1 : Addr) (N : Nat) (C : Nat → Int32) (h0 : Heap) (n0 : Nat) (v : Option Value) (h : Heap) (L : List Loc) : Prop := ∃ b, v = some (.ref b) ∧ Fr n0 L ∧ Keep h0 h [] ∧ n0 ≤ b ∧ h0.size ≤ b ∧ (((∀ t, t < N → ¬ (255 : Int32) < C t) ∧ ∃ B2 : Nat → Int32, ArF Z h b .byte N B2 ∧ ∀ t, t < N → B2 t = Lo8 (C t)) ∨ ∃ B2 : Nat → Int32, ArF Z h b .byte (2 * N) B2 ∧ ∀ t, t < N → B2 (2 * t) = Ulo (C t) ∧ B2 ((2 * t) + 1) = Uhi (C t))
set_option maxRecDepth 65536 in
set_option maxHeartbeats 40000000 in
theorem rm20 (l : Launch) (Z : State) (a0 : Array Value) (hw : ∀ d ∈ tables_1, d.before a0 Z = true) (ws : List Jvm.Cond) (a1 : Addr) (N : Nat) (C : Nat → Int32) (h0 : Heap) (n0 : Nat) (Z0 : n0 ≤ h0.size) (OLD : Old Z n0 h0) (S_a : Sta Z Z.heap "java/lang/StringUTF16" "$assertionsDisabled" "Z" (.int (1 : Int32))) (S_h : Sta Z Z.heap "java/lang/StringUTF16" "HI_BYTE_SHIFT" "I" (.int (0 : Int32))) (S_l : Sta Z Z.heap "java/lang/StringUTF16" "LO_BYTE_SHIFT" "I" (.int (8 : Int32))) (hN5 : N ≤ 5) (FA : ArF Z h0 a1 .char N C) (hC : ∀ t, t < N → IsCh (C t)) :
    MetFree l (⟨"java/lang/StringUTF16", "compress", "([CII)[B"⟩ : MethodName) (head1 (Jvm.Cond.code (⟨"java/lang/StringUTF16", "compress", "([CII)[B"⟩ : MethodName) jdk_52_method_16_code 6 (some (.array .byte)) :: ws) ({ frames := 3, cells := 2, slots := 15, locals := 40 } : Room)) (fun a U => a = #[(.ref a1), (.int (0 : Int32)), (.int (Int32.ofNat N))] ∧ Z.Warmed39 U.vm ∧ U.heap = h0) (fun _ _ _ _ _ => True) (fun _ U oo U' => ∃ v L, oo = .returned v ∧ Q20 Z a1 N C h0 n0 v U'.heap L ∧ FrameEnd U oo U' L ({ frames := 3, cells := 2, slots := 15, locals := 40 } : Room).cells ({ frames := 3, cells := 2, slots := 15, locals := 40 } : Room).slots) := by
  refine MetFree.of_bodySF (plainFor_of_name pn_20) hisR ?_
  intro p e s m args below meth c s₁ Bd hml0 hP hK
  obtain ⟨rfl, hZ, hh⟩ := hP
  have hx := Bd.exec
  have hby := Bd.bytes
  have hml : c.maxLocals = 6 := hml0
  have hown : s.vm.findClass "java/lang/StringUTF16" = some m.cls := findClass_of_methodNamed Bd.named
  have hnm := (name_of_methodNamed Bd.named Bd.method).1
  have X0 : Stand p l e ({ frames := 3, cells := 2, slots := 15, locals := 40 } : Room) s m #[(.ref a1), (.int (0 : Int32)), (.int (Int32.ofNat N))] below meth c s₁ [] 0 0 := Stand.of_body Bd
  have e0 : s₁.heap = h0 := by rw [← hh, Bd.state]; rfl
  have N0 := Fr.nil n0
  have K0 : Keep h0 h0 [] := Keep.refl _ _
  have pre0 : ∀ tg, Steps p.tables e below (s₁.setTop (mkF m 0 #[.val (.ref a1), .val (.int (0 : Int32)), .val (.int (Int32.ofNat N)), .unset, .unset, .unset] [])) tg → Steps p.tables e below (s₁.setTop (entryFrame m #[(.ref a1), (.int (0 : Int32)), (.int (Int32.ofNat N))] 6)) tg := fun tg k => castTop (ef_20 m a1 (Int32.ofNat N)) k
  have st1 : ∀ tg, Steps p.tables e below (s₁.setTop (mkF m 1 #[.val (.ref a1), .val (.int (0 : Int32)), .val (.int (Int32.ofNat N)), .unset, .unset, .unset] [(.int (Int32.ofNat N))])) tg → Steps p.tables e below (s₁.setTop (mkF m 0 #[.val (.ref a1), .val (.int (0 : Int32)), .val (.int (Int32.ofNat N)), .unset, .unset, .unset] [])) tg := by
    intro tg kt
    refine XS.iloadN X0.here hx rfl (hb hby d20_0) rfl ?_
    exact kt
  obtain ⟨T2, h2, k2, X2, e2, E2, A2, st2⟩ := newP X0 hx hZ (hw _ (List.mem_of_getElem? (i := 10) rfl)) e0 (g := (mkF m 1 #[.val (.ref a1), .val (.int (0 : Int32)), .val (.int (Int32.ofNat N)), .unset, .unset, .unset] [(.int (Int32.ofNat N))])) rfl (hb hby d20_1) rfl (own_nn (by omega)) (cap := 5) (by rw [own_tn (by omega)]; omega) (by decide) (by decide) (by decide)
  obtain ⟨b2, gz2⟩ : ∃ z, z = h0.size := ⟨_, rfl⟩
  rw [← gz2] at A2 st2
  have ne_a1_b2 : a1 ≠ b2 := Nat.ne_of_lt (Nat.lt_of_lt_of_le FA.lt (Nat.le_of_eq gz2.symm))
  have g_b2 : n0 ≤ b2 := Nat.le_trans Z0 (Nat.le_of_eq gz2.symm)
  have sz_b2 : h0.size ≤ b2 := Nat.le_trans K0.1 (Nat.le_of_eq gz2.symm)
  have G3 : Old Z n0 h2 := OLD.ext E2
  have G4 : ArF Z h2 a1 .char N C := FA.ext E2
  have K2 : Keep h0 h2 [] := K0.ext E2
  have Z2 : n0 ≤ h2.size := Nat.le_trans Z0 E2.1
  have G5 : ArF Z h2 b2 .byte N (fun _ => (0 : Int32)) := ArF.of_arv (Arv.new A2 (own_nn (by omega))) (own_tn (by omega)) (fun i hi => rfl)
  have st6 : ∀ tg, Steps p.tables e below (T2.setTop (mkF m 9 #[.val (.ref a1), .val (.int (0 : Int32)), .val (.int (Int32.ofNat N)), .val (.ref b2), .unset, .unset] [(.int (Int32.ofNat N)), (.int (0 : Int32)), (.ref b2), (.int (0 : Int32)), (.ref a1)])) tg → Steps p.tables e below (T2.setTop (mkF m 3 #[.val (.ref a1), .val (.int (0 : Int32)), .val (.int (Int32.ofNat N)), .unset, .unset, .unset] [(.ref b2)])) tg := by
    intro tg kt
    refine XS.astoreN X2.here hx rfl (hb hby d20_3) rfl rfl (l' := #[.val (.ref a1), .val (.int (0 : Int32)), .val (.int (Int32.ofNat N)), .val (.ref b2), .unset, .unset]) rfl ?_
    refine XS.aloadN X2.here hx rfl (hb hby d20_4) rfl rfl ?_
    refine XS.iloadN X2.here hx rfl (hb hby d20_5) rfl ?_
    refine XS.aloadN X2.here hx rfl (hb hby d20_6) rfl rfl ?_
    show Steps p.tables e below (T2.setTop (mkF m 7 #[.val (.ref a1), .val (.int (0 : Int32)), .val (.int (Int32.ofNat N)), .val (.ref b2), .unset, .unset] [(.ref b2), (.int (0 : Int32)), (.ref a1)])) tg
    refine XS.iconst X2.here hx rfl (hb hby d20_7) ?_
    refine XS.iloadN X2.here hx rfl (hb hby d20_8) rfl ?_
    exact kt
  obtain ⟨_, _, ⟨T7, L7, k7, n7⟩, -, X7, ⟨Lc7, hQ7, l7, y7, z7⟩, st7⟩ := Jvm.LawKit.callS X2 hx (y := (⟨"java/lang/StringUTF16", "compress", "([CI[BII)I"⟩ : MethodName)) hown (mvT hZ (hw _ (List.mem_of_getElem? (i := 96) rfl))) (mvT hZ (hw _ (List.mem_of_getElem? (i := 97) rfl))) (mvT hZ (hw _ (List.mem_of_getElem? (i := 94) rfl))) (mvT hZ (hw _ (List.mem_of_getElem? (i := 98) rfl))) (by decide) (backOf (W := 0) (rm21 l Z a0 hw [] a1 b2 N C (fun _ => (0 : Int32)) h2 n0 Z2 hN5 G4 G5 ne_a1_b2 g_b2) hZ (hw _ (List.mem_of_getElem? (i := 98) rfl)) (hw _ (List.mem_of_getElem? (i := 94) rfl)) (by decide) (by decide)) (g := (mkF m 9 #[.val (.ref a1), .val (.int (0 : Int32)), .val (.int (Int32.ofNat N)), .val (.ref b2), .unset, .unset] [(.int (Int32.ofNat N)), (.int (0 : Int32)), (.ref b2), (.int (0 : Int32)), (.ref a1)])) rfl (by rw [hml]; rfl) (argsL := [(.ref a1), (.int (0 : Int32)), (.ref b2), (.int (0 : Int32)), (.int (Int32.ofNat N))]) (rest := []) (lenOf pd_20 rfl) rfl (by show 2 * 0 + _ ≤ _; exact Nat.le_of_eq rfl) (hb hby d20_9) (fun _ _ => ⟨rfl, e2, (by decide : 1 + 0 ≤ _), (by decide : 5 + 0 ≤ _)⟩)
  dsimp only [Pt.U, Pt.locs, Pt.cells, Pt.slots] at X7 l7 y7 z7 st7 hQ7
  subst l7 y7 z7
  obtain ⟨r7, rfl, N7q, K7q, hr7⟩ := hQ7
  have N7 := Fr.app N0 N7q
  have G8 : Old Z n0 T7.heap := G3.keep K7q (allS g_b2 (all0))
  have G9 : ArF Z T7.heap a1 .char N C := G4.keep K7q (ninS ne_a1_b2 (nin0))
  have K7 : Keep h0 T7.heap [] := K2.trans K7q (allS (Or.inr sz_b2) all0)
  have Z7 : n0 ≤ T7.heap.size := Nat.le_trans Z2 K7q.1
  rcases hr7 with ⟨rfl, hall, B7, VL7, hB7⟩ | ⟨j, rfl, hj, hbig⟩
  · -- all fit a byte
    have st11 : ∀ tg, Steps p.tables e below (T7.setTop (mkF m 17 #[.val (.ref a1), .val (.int (0 : Int32)), .val (.int (Int32.ofNat N)), .val (.ref b2), .val (.int (Int32.ofNat N)), .unset] [(.int (Int32.ofNat N)), (.int (Int32.ofNat N))])) tg → Steps p.tables e below (T7.setTop (mkF m 12 #[.val (.ref a1), .val (.int (0 : Int32)), .val (.int (Int32.ofNat N)), .val (.ref b2), .unset, .unset] [(.int (Int32.ofNat N))])) tg := by
      intro tg kt
      refine XS.istore X7.here hx rfl (hb hby d20_12) rfl (l' := #[.val (.ref a1), .val (.int (0 : Int32)), .val (.int (Int32.ofNat N)), .val (.ref b2), .val (.int (Int32.ofNat N)), .unset]) rfl ?_
      refine XS.iload X7.here hx rfl (hb hby d20_14) rfl ?_
      refine XS.iloadN X7.here hx rfl (hb hby d20_16) rfl ?_
      exact kt
    have hf10 : (Int32.ofNat N) = (Int32.ofNat N) := rfl
    have st12 : ∀ tg, Steps p.tables e below (T7.setTop (mkF m 58 #[.val (.ref a1), .val (.int (0 : Int32)), .val (.int (Int32.ofNat N)), .val (.ref b2), .val (.int (Int32.ofNat N)), .unset] [(.ref b2)])) tg → Steps p.tables e below (T7.setTop (mkF m 17 #[.val (.ref a1), .val (.int (0 : Int32)), .val (.int (Int32.ofNat N)), .val (.ref b2), .val (.int (Int32.ofNat N)), .unset] [(.int (Int32.ofNat N)), (.int (Int32.ofNat N))])) tg := by
      intro tg kt
      refine XS.icmpYes X7.here hx rfl (pc0 := 17) (pc' := 57) rfl (hb hby d20_17) rfl (XT.ii_eq_t hf10) (by decide) (by decide) ?_
      refine XS.aloadN X7.here hx rfl (hb hby d20_57) rfl rfl ?_
      exact kt
    obtain ⟨fs, hr, hrun, hended, hW, hsame⟩ := X7.leave (v := some (.ref b2)) (fun h => by rw [Bd.returns] at h; cases h)
    refine ⟨_, _, pre0 _ ?_, hrun, hended, _, _, rfl, ?_, ⟨_, rfl⟩, hW, hsame.mono (by decide) (by decide)⟩
    · refine st1 _ ?_
      show Steps p.tables e below (s₁.setTop (mkF m 1 #[.val (.ref a1), .val (.int (0 : Int32)), .val (.int (Int32.ofNat N)), .unset, .unset, .unset] [(.int (Int32.ofNat N))])) _
      refine st2 _ ?_
      refine st6 _ ?_
      show Steps p.tables e below (T2.setTop (mkF m 9 #[.val (.ref a1), .val (.int (0 : Int32)), .val (.int (Int32.ofNat N)), .val (.ref b2), .unset, .unset] [(.int (Int32.ofNat N)), (.int (0 : Int32)), (.ref b2), (.int (0 : Int32)), (.ref a1)])) _
      refine st7 _ ?_
      refine st11 _ ?_
      refine st12 _ ?_
      show Steps p.tables e below (T7.setTop (mkF m 58 #[.val (.ref a1), .val (.int (0 : Int32)), .val (.int (Int32.ofNat N)), .val (.ref b2), .val (.int (Int32.ofNat N)), .unset] [(.ref b2)])) _
      exact retOut X7 hx Bd.returns rfl (Or.inr (Or.inr (Or.inr (Or.inr ⟨rfl, rfl, rfl⟩)))) (hb hby d20_58) hr
    · show Q20 Z a1 N C h0 n0 _ T7.heap _
      skip
      exact ⟨b2, rfl, N7, K7, g_b2, sz_b2, Or.inl ⟨hall, _, VL7, hB7⟩⟩
  · -- one doesn't
    have st14 : ∀ tg, Steps p.tables e below (T7.setTop (mkF m 17 #[.val (.ref a1), .val (.int (0 : Int32)), .val (.int (Int32.ofNat N)), .val (.ref b2), .val (.int (Int32.ofNat j)), .unset] [(.int (Int32.ofNat N)), (.int (Int32.ofNat j))])) tg → Steps p.tables e below (T7.setTop (mkF m 12 #[.val (.ref a1), .val (.int (0 : Int32)), .val (.int (Int32.ofNat N)), .val (.ref b2), .unset, .unset] [(.int (Int32.ofNat j))])) tg := by
      intro tg kt
      refine XS.istore X7.here hx rfl (hb hby d20_12) rfl (l' := #[.val (.ref a1), .val (.int (0 : Int32)), .val (.int (Int32.ofNat N)), .val (.ref b2), .val (.int (Int32.ofNat j)), .unset]) rfl ?_
      refine XS.iload X7.here hx rfl (hb hby d20_14) rfl ?_
      refine XS.iloadN X7.here hx rfl (hb hby d20_16) rfl ?_
      exact kt
    have hf13 : ¬ ((Int32.ofNat j) = (Int32.ofNat N)) := fun q => absurd (own_inj (by omega) (by omega) q) (by omega)
    have st15 : ∀ tg, Steps p.tables e below (T7.setTop (mkF m 23 #[.val (.ref a1), .val (.int (0 : Int32)), .val (.int (Int32.ofNat N)), .val (.ref b2), .val (.int (Int32.ofNat j)), .unset] [(.int (Int32.ofNat N)), (.int (0 : Int32)), (.ref a1)])) tg → Steps p.tables e below (T7.setTop (mkF m 17 #[.val (.ref a1), .val (.int (0 : Int32)), .val (.int (Int32.ofNat N)), .val (.ref b2), .val (.int (Int32.ofNat j)), .unset] [(.int (Int32.ofNat N)), (.int (Int32.ofNat j))])) tg := by
      intro tg kt
      refine XS.icmpNo X7.here hx rfl (hb hby d20_17) rfl (XT.ii_eq_f hf13) ?_
      refine XS.aloadN X7.here hx rfl (hb hby d20_20) rfl rfl ?_
      refine XS.iloadN X7.here hx rfl (hb hby d20_21) rfl ?_
      refine XS.iloadN X7.here hx rfl (hb hby d20_22) rfl ?_
      exact kt
    obtain ⟨_, _, ⟨T16, L16, k16, n16⟩, -, X16, ⟨Lc16, hQ16, l16, y16, z16⟩, st16⟩ := Jvm.LawKit.callS X7 hx (y := (⟨"java/lang/StringUTF16", "toBytes", "([CII)[B"⟩ : MethodName)) hown (mvT hZ (hw _ (List.mem_of_getElem? (i := 113) rfl))) (mvT hZ (hw _ (List.mem_of_getElem? (i := 114) rfl))) (mvT hZ (hw _ (List.mem_of_getElem? (i := 94) rfl))) (mvT hZ (hw _ (List.mem_of_getElem? (i := 115) rfl))) (by decide) (backOf (W := 0) (rm26 l Z a0 hw [] a1 N C T7.heap n0 Z7 G8 S_a S_h S_l hN5 G9) hZ (hw _ (List.mem_of_getElem? (i := 115) rfl)) (hw _ (List.mem_of_getElem? (i := 94) rfl)) (by decide) (by decide)) (g := (mkF m 23 #[.val (.ref a1), .val (.int (0 : Int32)), .val (.int (Int32.ofNat N)), .val (.ref b2), .val (.int (Int32.ofNat j)), .unset] [(.int (Int32.ofNat N)), (.int (0 : Int32)), (.ref a1)])) rfl (by rw [hml]; rfl) (argsL := [(.ref a1), (.int (0 : Int32)), (.int (Int32.ofNat N))]) (rest := []) (lenOf pd_21 rfl) rfl (by show 2 * 0 + _ ≤ _; exact Nat.le_of_eq rfl) (hb hby d20_23) (fun _ _ => ⟨rfl, rfl, (by decide : 1 + 1 ≤ _), (by decide : 5 + 10 ≤ _)⟩)
    dsimp only [Pt.U, Pt.locs, Pt.cells, Pt.slots] at X16 l16 y16 z16 st16 hQ16
    subst l16 y16 z16
    obtain ⟨b16, rfl, N16q, K16q, g_b16, sz16q, ⟨B216, VU16, hU16⟩⟩ := hQ16
    have N16 := Fr.app N7 N16q
    have ne_a1_b16 : a1 ≠ b16 := Nat.ne_of_lt (Nat.lt_of_lt_of_le G9.lt sz16q)
    have sz_b16 : h0.size ≤ b16 := Nat.le_trans K7.1 sz16q
    have G17 : Old Z n0 T16.heap := G8.keep K16q (all0)
    have G18 : ArF Z T16.heap a1 .char N C := G9.keep K16q (nin0)
    have K16 : Keep h0 T16.heap [] := K7.trans K16q all0
    have Z16 : n0 ≤ T16.heap.size := Nat.le_trans Z7 K16q.1
    have st19 : ∀ tg, Steps p.tables e below (T16.setTop (mkF m 32 #[.val (.ref a1), .val (.int (0 : Int32)), .val (.int (Int32.ofNat N)), .val (.ref b2), .val (.int (Int32.ofNat j)), .val (.ref b16)] [(.int (Int32.ofNat j)), (.ref b16)])) tg → Steps p.tables e below (T16.setTop (mkF m 26 #[.val (.ref a1), .val (.int (0 : Int32)), .val (.int (Int32.ofNat N)), .val (.ref b2), .val (.int (Int32.ofNat j)), .unset] [(.ref b16)])) tg := by
      intro tg kt
      refine XS.astore X16.here hx rfl (hb hby d20_26) rfl rfl (l' := #[.val (.ref a1), .val (.int (0 : Int32)), .val (.int (Int32.ofNat N)), .val (.ref b2), .val (.int (Int32.ofNat j)), .val (.ref b16)]) rfl ?_
      refine XS.aload X16.here hx rfl (hb hby d20_28) rfl rfl ?_
      refine XS.iload X16.here hx rfl (hb hby d20_30) rfl ?_
      exact kt
    obtain ⟨_, _, ⟨T20, L20, k20, n20⟩, -, X20, ⟨Lc20, hQ20, l20, y20, z20⟩, st20⟩ := Jvm.LawKit.callS X16 hx (y := (⟨"java/lang/StringUTF16", "getChar", "([BI)C"⟩ : MethodName)) hown (mvT hZ (hw _ (List.mem_of_getElem? (i := 129) rfl))) (mvT hZ (hw _ (List.mem_of_getElem? (i := 130) rfl))) (mvT hZ (hw _ (List.mem_of_getElem? (i := 94) rfl))) (mvT hZ (hw _ (List.mem_of_getElem? (i := 131) rfl))) (by decide) (backOf (W := 0) (rm30 l Z a0 hw [] b16 N B216 j T16.heap n0 Z16 G17 S_a S_h S_l (by omega) hj VU16) hZ (hw _ (List.mem_of_getElem? (i := 131) rfl)) (hw _ (List.mem_of_getElem? (i := 94) rfl)) (by decide) (by decide)) (g := (mkF m 32 #[.val (.ref a1), .val (.int (0 : Int32)), .val (.int (Int32.ofNat N)), .val (.ref b2), .val (.int (Int32.ofNat j)), .val (.ref b16)] [(.int (Int32.ofNat j)), (.ref b16)])) rfl (by rw [hml]; rfl) (argsL := [(.ref b16), (.int (Int32.ofNat j))]) (rest := []) (lenOf pd_6 rfl) rfl (by show 2 * 0 + _ ≤ _; exact Nat.le_of_eq rfl) (hb hby d20_32) (fun _ _ => ⟨rfl, rfl, (by decide : 2 + 0 ≤ _), (by decide : 15 + 0 ≤ _)⟩)
    dsimp only [Pt.U, Pt.locs, Pt.cells, Pt.slots] at X20 l20 y20 z20 st20 hQ20
    subst l20 y20 z20
    obtain ⟨rfl, N20q, e20⟩ := hQ20
    have N20 := Fr.app N16 N20q
    have eq21 : (D16 (B216 (2 * j)) (B216 ((2 * j) + 1))) = (C j) := by rw [(hU16 j hj).1, (hU16 j hj).2]; exact own_u16 (C j) (hC j hj).1 (hC j hj).2
    rw [eq21] at st20
    have st22 : ∀ tg, Steps p.tables e below (T20.setTop (mkF m 56 #[.val (.ref a1), .val (.int (0 : Int32)), .val (.int (Int32.ofNat N)), .val (.ref b2), .val (.int (Int32.ofNat j)), .val (.ref b16)] [(.ref b16)])) tg → Steps p.tables e below (T20.setTop (mkF m 35 #[.val (.ref a1), .val (.int (0 : Int32)), .val (.int (Int32.ofNat N)), .val (.ref b2), .val (.int (Int32.ofNat j)), .val (.ref b16)] [(.int (C j))])) tg := by
      intro tg kt
      refine XS.sipush X20.here hx rfl (hb hby d20_35) ?_
      refine XS.icmpYes X20.here hx rfl (pc0 := 38) (pc' := 54) rfl (hb hby d20_38) rfl (XT.ii_gt_t hbig) (by decide) (by decide) ?_
      refine XS.aload X20.here hx rfl (hb hby d20_54) rfl rfl ?_
      exact kt
    obtain ⟨fs, hr, hrun, hended, hW, hsame⟩ := X20.leave (v := some (.ref b16)) (fun h => by rw [Bd.returns] at h; cases h)
    refine ⟨_, _, pre0 _ ?_, hrun, hended, _, _, rfl, ?_, ⟨_, rfl⟩, hW, hsame.mono (by decide) (by decide)⟩
    · refine st1 _ ?_
      show Steps p.tables e below (s₁.setTop (mkF m 1 #[.val (.ref a1), .val (.int (0 : Int32)), .val (.int (Int32.ofNat N)), .unset, .unset, .unset] [(.int (Int32.ofNat N))])) _
      refine st2 _ ?_
      refine st6 _ ?_
      show Steps p.tables e below (T2.setTop (mkF m 9 #[.val (.ref a1), .val (.int (0 : Int32)), .val (.int (Int32.ofNat N)), .val (.ref b2), .unset, .unset] [(.int (Int32.ofNat N)), (.int (0 : Int32)), (.ref b2), (.int (0 : Int32)), (.ref a1)])) _
      refine st7 _ ?_
      refine st14 _ ?_
      refine st15 _ ?_
      show Steps p.tables e below (T7.setTop (mkF m 23 #[.val (.ref a1), .val (.int (0 : Int32)), .val (.int (Int32.ofNat N)), .val (.ref b2), .val (.int (Int32.ofNat j)), .unset] [(.int (Int32.ofNat N)), (.int (0 : Int32)), (.ref a1)])) _
      refine st16 _ ?_
      refine st19 _ ?_
      show Steps p.tables e below (T16.setTop (mkF m 32 #[.val (.ref a1), .val (.int (0 : Int32)), .val (.int (Int32.ofNat N)), .val (.ref b2), .val (.int (Int32.ofNat j)), .val (.ref b16)] [(.int (Int32.ofNat j)), (.ref b16)])) _
      refine st20 _ ?_
      refine st22 _ ?_
      show Steps p.tables e below (T20.setTop (mkF m 56 #[.val (.ref a1), .val (.int (0 : Int32)), .val (.int (Int32.ofNat N)), .val (.ref b2), .val (.int (Int32.ofNat j)), .val (.ref b16)] [(.ref b16)])) _
      exact retOut X20 hx Bd.returns rfl (Or.inr (Or.inr (Or.inr (Or.inr ⟨rfl, rfl, rfl⟩)))) (hb hby d20_56) hr
    · show Q20 Z a1 N C h0 n0 _ T20.heap _
      rw [e20]
      exact ⟨b16, rfl, N20, K16, g_b16, sz_b16, Or.inr ⟨_, VU16, hU16⟩⟩
theorem d22_0 : decode jdk_52_method_15_code 0 = .ok (.iload_n 1, 1) := by decide +kernel
theorem d22_1 : decode jdk_52_method_15_code 1 = .ok (.aload_n 0, 1) := by decide +kernel
theorem d22_2 : decode jdk_52_method_15_code 2 = .ok (.arraylength, 1) := by decide +kernel
theorem d22_3 : decode jdk_52_method_15_code 3 = .ok (.isub, 1) := by decide +kernel
theorem d22_4 : decode jdk_52_method_15_code 4 = .ok (.bipush 31, 2) := by decide +kernel
theorem d22_6 : decode jdk_52_method_15_code 6 = .ok (.iushr, 1) := by decide +kernel
theorem d22_7 : decode jdk_52_method_15_code 7 = .ok (.i2b, 1) := by decide +kernel
theorem d22_8 : decode jdk_52_method_15_code 8 = .ok (.ireturn, 1) := by decide +kernel
theorem pn_22 : plainName "java/lang/StringUTF16" = true := by first | (simp [plainName, overriddenIn]; done) | decide +kernel
theorem ef_22l (m : MethodId) (a1 : Addr) (y1 : Int32) : entryFrame m #[(.ref a1), (.int y1)] 2 = mkF m 0 #[.val (.ref a1), .val (.int y1)] [] := by first | (simp [entryFrame, mkF, argsToLocals, Value.category]; done) | rfl
def Q22l (Z : State) (a1 : Addr) (N : Nat) (B : Nat → Int32) (h0 : Heap) (n0 : Nat) (v : Option Value) (h : Heap) (L : List Loc) : Prop := v = some (.int (0 : Int32)) ∧ Fr n0 L ∧ h = h0
set_option maxRecDepth 65536 in
set_option maxHeartbeats 40000000 in
theorem rm22l (l : Launch) (Z : State) (a0 : Array Value) (hw : ∀ d ∈ tables_1, d.before a0 Z = true) (ws : List Jvm.Cond) (a1 : Addr) (N : Nat) (B : Nat → Int32) (h0 : Heap) (n0 : Nat) (Z0 : n0 ≤ h0.size) (hN5 : N ≤ 5) (h1N : 1 ≤ N) (FA : ArF Z h0 a1 .byte N B) :
    MetFree l (⟨"java/lang/StringUTF16", "coderFromArrayLen", "([BI)B"⟩ : MethodName) (head1 (Jvm.Cond.code (⟨"java/lang/StringUTF16", "coderFromArrayLen", "([BI)B"⟩ : MethodName) jdk_52_method_15_code 2 (some .byte) :: ws) ({ frames := 0, cells := 0, slots := 0, locals := 0 } : Room)) (fun a U => a = #[(.ref a1), (.int (Int32.ofNat N))] ∧ Z.Warmed39 U.vm ∧ U.heap = h0) (fun _ _ _ _ _ => True) (fun _ U oo U' => ∃ v L, oo = .returned v ∧ Q22l Z a1 N B h0 n0 v U'.heap L ∧ FrameEnd U oo U' L ({ frames := 0, cells := 0, slots := 0, locals := 0 } : Room).cells ({ frames := 0, cells := 0, slots := 0, locals := 0 } : Room).slots) := by
  refine MetFree.of_bodySF (plainFor_of_name pn_22) hisR ?_
  intro p e s m args below meth c s₁ Bd hml0 hP hK
  obtain ⟨rfl, hZ, hh⟩ := hP
  have hx := Bd.exec
  have hby := Bd.bytes
  have hml : c.maxLocals = 2 := hml0
  have hown : s.vm.findClass "java/lang/StringUTF16" = some m.cls := findClass_of_methodNamed Bd.named
  have hnm := (name_of_methodNamed Bd.named Bd.method).1
  have X0 : Stand p l e ({ frames := 0, cells := 0, slots := 0, locals := 0 } : Room) s m #[(.ref a1), (.int (Int32.ofNat N))] below meth c s₁ [] 0 0 := Stand.of_body Bd
  have e0 : s₁.heap = h0 := by rw [← hh, Bd.state]; rfl
  have N0 := Fr.nil n0
  have K0 : Keep h0 h0 [] := Keep.refl _ _
  have pre0 : ∀ tg, Steps p.tables e below (s₁.setTop (mkF m 0 #[.val (.ref a1), .val (.int (Int32.ofNat N))] [])) tg → Steps p.tables e below (s₁.setTop (entryFrame m #[(.ref a1), (.int (Int32.ofNat N))] 2)) tg := fun tg k => castTop (ef_22l m a1 (Int32.ofNat N)) k
  have st2 : ∀ tg, Steps p.tables e below (s₁.setTop (mkF m 2 #[.val (.ref a1), .val (.int (Int32.ofNat N))] [(.ref a1), (.int (Int32.ofNat N))])) tg → Steps p.tables e below (s₁.setTop (mkF m 0 #[.val (.ref a1), .val (.int (Int32.ofNat N))] [])) tg := by
    intro tg kt
    refine XS.iloadN X0.here hx rfl (hb hby d22_0) rfl ?_
    refine XS.aloadN X0.here hx rfl (hb hby d22_1) rfl rfl ?_
    exact kt
  obtain ⟨cl1, Ar1, Sa1, Ha1⟩ := id FA
  have st3 : ∀ tg, Steps p.tables e below (s₁.setTop (mkF m 8 #[.val (.ref a1), .val (.int (Int32.ofNat N))] [(.int (((((Int32.ofNat N) - (Int32.ofNat N)).toUInt32 >>> ((31 : Int32) &&& 31).toUInt32).toInt32).toInt8.toInt32))])) tg → Steps p.tables e below (s₁.setTop (mkF m 2 #[.val (.ref a1), .val (.int (Int32.ofNat N))] [(.ref a1), (.int (Int32.ofNat N))])) tg := by
    intro tg kt
    refine X0.arraylength hx (by rw [e0]; exact Ar1.1) (State.isArrayOf_alike hZ.alike Ar1.2.1) (g := (mkF m 2 #[.val (.ref a1), .val (.int (Int32.ofNat N))] [(.ref a1), (.int (Int32.ofNat N))])) rfl rfl (hb hby d22_2) _ ?_
    rw [show cl1.slots.size.toInt32 = Int32.ofNat N from congrArg Int32.ofNat Sa1]
    refine XS.isub X0.here hx rfl (hb hby d22_3) rfl ?_
    refine XS.bipush X0.here hx rfl (hb hby d22_4) ?_
    refine XS.iushr X0.here hx rfl (hb hby d22_6) rfl ?_
    show Steps p.tables e below (s₁.setTop (mkF m 7 #[.val (.ref a1), .val (.int (Int32.ofNat N))] [(.int ((((Int32.ofNat N) - (Int32.ofNat N)).toUInt32 >>> ((31 : Int32) &&& 31).toUInt32).toInt32))])) tg
    refine XS.i2b X0.here hx rfl (hb hby d22_7) rfl ?_
    exact kt
  obtain ⟨fs, hr, hrun, hended, hW, hsame⟩ := X0.leave (v := some (.int (nar .byte (((((Int32.ofNat N) - (Int32.ofNat N)).toUInt32 >>> ((31 : Int32) &&& 31).toUInt32).toInt32).toInt8.toInt32)))) (fun h => by rw [Bd.returns] at h; cases h)
  refine ⟨_, _, pre0 _ ?_, hrun, hended, _, _, rfl, ?_, ⟨_, rfl⟩, hW, hsame.mono (by decide) (by decide)⟩
  · refine st2 _ ?_
    refine st3 _ ?_
    show Steps p.tables e below (s₁.setTop (mkF m 8 #[.val (.ref a1), .val (.int (Int32.ofNat N))] [(.int (((((Int32.ofNat N) - (Int32.ofNat N)).toUInt32 >>> ((31 : Int32) &&& 31).toUInt32).toInt32).toInt8.toInt32))])) _
    exact retN X0 hx (t := .byte) Bd.returns (by simp) (hb hby d22_8) hr
  · show Q22l Z a1 N B h0 n0 _ s₁.heap _
    rw [e0]
    refine ⟨?_, N0, rfl⟩
    exact congrArg (fun z => some (Value.int z)) (show nar .byte _ = _ from by rw [own_sub0]; decide)
theorem ef_22u (m : MethodId) (a1 : Addr) (y1 : Int32) : entryFrame m #[(.ref a1), (.int y1)] 2 = mkF m 0 #[.val (.ref a1), .val (.int y1)] [] := by first | (simp [entryFrame, mkF, argsToLocals, Value.category]; done) | rfl
def Q22u (Z : State) (a1 : Addr) (N : Nat) (B : Nat → Int32) (h0 : Heap) (n0 : Nat) (v : Option Value) (h : Heap) (L : List Loc) : Prop := v = some (.int (1 : Int32)) ∧ Fr n0 L ∧ h = h0
set_option maxRecDepth 65536 in
set_option maxHeartbeats 40000000 in
theorem rm22u (l : Launch) (Z : State) (a0 : Array Value) (hw : ∀ d ∈ tables_1, d.before a0 Z = true) (ws : List Jvm.Cond) (a1 : Addr) (N : Nat) (B : Nat → Int32) (h0 : Heap) (n0 : Nat) (Z0 : n0 ≤ h0.size) (hN5 : N ≤ 5) (h1N : 1 ≤ N) (FA : ArF Z h0 a1 .byte (2 * N) B) :
    MetFree l (⟨"java/lang/StringUTF16", "coderFromArrayLen", "([BI)B"⟩ : MethodName) (head1 (Jvm.Cond.code (⟨"java/lang/StringUTF16", "coderFromArrayLen", "([BI)B"⟩ : MethodName) jdk_52_method_15_code 2 (some .byte) :: ws) ({ frames := 0, cells := 0, slots := 0, locals := 0 } : Room)) (fun a U => a = #[(.ref a1), (.int (Int32.ofNat N))] ∧ Z.Warmed39 U.vm ∧ U.heap = h0) (fun _ _ _ _ _ => True) (fun _ U oo U' => ∃ v L, oo = .returned v ∧ Q22u Z a1 N B h0 n0 v U'.heap L ∧ FrameEnd U oo U' L ({ frames := 0, cells := 0, slots := 0, locals := 0 } : Room).cells ({ frames := 0, cells := 0, slots := 0, locals := 0 } : Room).slots) := by
  refine MetFree.of_bodySF (plainFor_of_name pn_22) hisR ?_
  intro p e s m args below meth c s₁ Bd hml0 hP hK
  obtain ⟨rfl, hZ, hh⟩ := hP
  have hx := Bd.exec
  have hby := Bd.bytes
  have hml : c.maxLocals = 2 := hml0
  have hown : s.vm.findClass "java/lang/StringUTF16" = some m.cls := findClass_of_methodNamed Bd.named
  have hnm := (name_of_methodNamed Bd.named Bd.method).1
  have X0 : Stand p l e ({ frames := 0, cells := 0, slots := 0, locals := 0 } : Room) s m #[(.ref a1), (.int (Int32.ofNat N))] below meth c s₁ [] 0 0 := Stand.of_body Bd
  have e0 : s₁.heap = h0 := by rw [← hh, Bd.state]; rfl
  have N0 := Fr.nil n0
  have K0 : Keep h0 h0 [] := Keep.refl _ _
  have pre0 : ∀ tg, Steps p.tables e below (s₁.setTop (mkF m 0 #[.val (.ref a1), .val (.int (Int32.ofNat N))] [])) tg → Steps p.tables e below (s₁.setTop (entryFrame m #[(.ref a1), (.int (Int32.ofNat N))] 2)) tg := fun tg k => castTop (ef_22u m a1 (Int32.ofNat N)) k
  have st2 : ∀ tg, Steps p.tables e below (s₁.setTop (mkF m 2 #[.val (.ref a1), .val (.int (Int32.ofNat N))] [(.ref a1), (.int (Int32.ofNat N))])) tg → Steps p.tables e below (s₁.setTop (mkF m 0 #[.val (.ref a1), .val (.int (Int32.ofNat N))] [])) tg := by
    intro tg kt
    refine XS.iloadN X0.here hx rfl (hb hby d22_0) rfl ?_
    refine XS.aloadN X0.here hx rfl (hb hby d22_1) rfl rfl ?_
    exact kt
  obtain ⟨cl1, Ar1, Sa1, Ha1⟩ := id FA
  have st3 : ∀ tg, Steps p.tables e below (s₁.setTop (mkF m 8 #[.val (.ref a1), .val (.int (Int32.ofNat N))] [(.int (((((Int32.ofNat N) - (Int32.ofNat (2 * N))).toUInt32 >>> ((31 : Int32) &&& 31).toUInt32).toInt32).toInt8.toInt32))])) tg → Steps p.tables e below (s₁.setTop (mkF m 2 #[.val (.ref a1), .val (.int (Int32.ofNat N))] [(.ref a1), (.int (Int32.ofNat N))])) tg := by
    intro tg kt
    refine X0.arraylength hx (by rw [e0]; exact Ar1.1) (State.isArrayOf_alike hZ.alike Ar1.2.1) (g := (mkF m 2 #[.val (.ref a1), .val (.int (Int32.ofNat N))] [(.ref a1), (.int (Int32.ofNat N))])) rfl rfl (hb hby d22_2) _ ?_
    rw [show cl1.slots.size.toInt32 = Int32.ofNat (2 * N) from congrArg Int32.ofNat Sa1]
    refine XS.isub X0.here hx rfl (hb hby d22_3) rfl ?_
    refine XS.bipush X0.here hx rfl (hb hby d22_4) ?_
    refine XS.iushr X0.here hx rfl (hb hby d22_6) rfl ?_
    show Steps p.tables e below (s₁.setTop (mkF m 7 #[.val (.ref a1), .val (.int (Int32.ofNat N))] [(.int ((((Int32.ofNat N) - (Int32.ofNat (2 * N))).toUInt32 >>> ((31 : Int32) &&& 31).toUInt32).toInt32))])) tg
    refine XS.i2b X0.here hx rfl (hb hby d22_7) rfl ?_
    exact kt
  obtain ⟨fs, hr, hrun, hended, hW, hsame⟩ := X0.leave (v := some (.int (nar .byte (((((Int32.ofNat N) - (Int32.ofNat (2 * N))).toUInt32 >>> ((31 : Int32) &&& 31).toUInt32).toInt32).toInt8.toInt32)))) (fun h => by rw [Bd.returns] at h; cases h)
  refine ⟨_, _, pre0 _ ?_, hrun, hended, _, _, rfl, ?_, ⟨_, rfl⟩, hW, hsame.mono (by decide) (by decide)⟩
  · refine st2 _ ?_
    refine st3 _ ?_
    show Steps p.tables e below (s₁.setTop (mkF m 8 #[.val (.ref a1), .val (.int (Int32.ofNat N))] [(.int (((((Int32.ofNat N) - (Int32.ofNat (2 * N))).toUInt32 >>> ((31 : Int32) &&& 31).toUInt32).toInt32).toInt8.toInt32))])) _
    exact retN X0 hx (t := .byte) Bd.returns (by simp) (hb hby d22_8) hr
  · show Q22u Z a1 N B h0 n0 _ s₁.heap _
    rw [e0]
    refine ⟨?_, N0, rfl⟩
    exact congrArg (fun z => some (Value.int z)) (show nar .byte _ = _ from by rw [own_neg32 (by omega) (by omega)]; decide)
theorem d8_0 : decode jdk_42_method_149_code 0 = .ok (.aload_n 0, 1) := by decide +kernel
theorem d8_1 : decode jdk_42_method_149_code 1 = .ok (.invokespecial 1, 3) := by decide +kernel
theorem d8_4 : decode jdk_42_method_149_code 4 = .ok (.iload_n 3, 1) := by decide +kernel
theorem d8_5 : decode jdk_42_method_149_code 5 = .ok (.ifCond .ne 22, 3) := by decide +kernel
theorem d8_27 : decode jdk_42_method_149_code 27 = .ok (.getstatic 38, 3) := by decide +kernel
theorem d8_30 : decode jdk_42_method_149_code 30 = .ok (.ifCond .eq 28, 3) := by decide +kernel
theorem d8_33 : decode jdk_42_method_149_code 33 = .ok (.aload_n 1, 1) := by decide +kernel
theorem d8_34 : decode jdk_42_method_149_code 34 = .ok (.iload_n 2, 1) := by decide +kernel
theorem d8_35 : decode jdk_42_method_149_code 35 = .ok (.iload_n 3, 1) := by decide +kernel
theorem d8_36 : decode jdk_42_method_149_code 36 = .ok (.invokestatic 177, 3) := by decide +kernel
theorem d8_39 : decode jdk_42_method_149_code 39 = .ok (.astore 5, 2) := by decide +kernel
theorem d8_41 : decode jdk_42_method_149_code 41 = .ok (.aload_n 0, 1) := by decide +kernel
theorem d8_42 : decode jdk_42_method_149_code 42 = .ok (.aload 5, 2) := by decide +kernel
theorem d8_44 : decode jdk_42_method_149_code 44 = .ok (.iload_n 3, 1) := by decide +kernel
theorem d8_45 : decode jdk_42_method_149_code 45 = .ok (.invokestatic 47, 3) := by decide +kernel
theorem d8_48 : decode jdk_42_method_149_code 48 = .ok (.putfield 15, 3) := by decide +kernel
theorem d8_51 : decode jdk_42_method_149_code 51 = .ok (.aload_n 0, 1) := by decide +kernel
theorem d8_52 : decode jdk_42_method_149_code 52 = .ok (.aload 5, 2) := by decide +kernel
theorem d8_54 : decode jdk_42_method_149_code 54 = .ok (.putfield 9, 3) := by decide +kernel
theorem d8_57 : decode jdk_42_method_149_code 57 = .ok (.return_, 1) := by decide +kernel
theorem pn_8 : plainName "java/lang/String" = true := by first | (simp [plainName, overriddenIn]; done) | decide +kernel
theorem ef_8 (m : MethodId) (a1 : Addr) (a2 : Addr) (y3 : Int32) : entryFrame m #[(.ref a1), (.ref a2), (.int (0 : Int32)), (.int y3), .null] 6 = mkF m 0 #[.val (.ref a1), .val (.ref a2), .val (.int (0 : Int32)), .val (.int y3), .val .null, .unset] [] := by first | (simp [entryFrame, mkF, argsToLocals, Value.category]; done) | rfl
def Q8 (Z : State) (a1 : Addr) (a2 : Addr) (N : Nat) (C : Nat → Int32) (wc : Int32) (h0 : Heap) (n0 : Nat) (v : Option Value) (h : Heap) (L : List Loc) : Prop := v = none ∧ Fr n0 L ∧ Keep h0 h [a1] ∧ StrF Z h a1 N C
set_option maxRecDepth 65536 in
set_option maxHeartbeats 40000000 in
theorem rm8 (l : Launch) (Z : State) (a0 : Array Value) (hw : ∀ d ∈ tables_1, d.before a0 Z = true) (ws : List Jvm.Cond) (a1 : Addr) (a2 : Addr) (N : Nat) (C : Nat → Int32) (wc : Int32) (h0 : Heap) (n0 : Nat) (Z0 : n0 ≤ h0.size) (OLD : Old Z n0 h0) (S_c : Sta Z Z.heap "java/lang/String" "COMPACT_STRINGS" "Z" (.int wc)) (hwc : ¬ wc = 0) (S_a : Sta Z Z.heap "java/lang/StringUTF16" "$assertionsDisabled" "Z" (.int (1 : Int32))) (S_h : Sta Z Z.heap "java/lang/StringUTF16" "HI_BYTE_SHIFT" "I" (.int (0 : Int32))) (S_l : Sta Z Z.heap "java/lang/StringUTF16" "LO_BYTE_SHIFT" "I" (.int (8 : Int32))) (hN5 : N ≤ 5) (h1N : 1 ≤ N) (hC : ∀ t, t < N → IsCh (C t)) (FE : Exa Z h0 a1 "java/lang/String") (FV : Fld Z h0 a1 "java/lang/String" "value" "[B" .null) (FC : Fld Z h0 a1 "java/lang/String" "coder" "B" (.int (0 : Int32))) (FA : ArF Z h0 a2 .char N C) (g_a1 : n0 ≤ a1) (ne21 : a2 ≠ a1) :
    MetFree l (⟨"java/lang/String", "<init>", "([CIILjava/lang/Void;)V"⟩ : MethodName) (head1 (Jvm.Cond.code (⟨"java/lang/String", "<init>", "([CIILjava/lang/Void;)V"⟩ : MethodName) jdk_42_method_149_code 6 none :: ws) ({ frames := 4, cells := 2, slots := 15, locals := 57 } : Room)) (fun a U => a = #[(.ref a1), (.ref a2), (.int (0 : Int32)), (.int (Int32.ofNat N)), .null] ∧ Z.Warmed39 U.vm ∧ U.heap = h0) (fun _ _ _ _ _ => True) (fun _ U oo U' => ∃ v L, oo = .returned v ∧ Q8 Z a1 a2 N C wc h0 n0 v U'.heap L ∧ FrameEnd U oo U' L ({ frames := 4, cells := 2, slots := 15, locals := 57 } : Room).cells ({ frames := 4, cells := 2, slots := 15, locals := 57 } : Room).slots) := by
  refine MetFree.of_bodySF (plainFor_of_name pn_8) hisR ?_
  intro p e s m args below meth c s₁ Bd hml0 hP hK
  obtain ⟨rfl, hZ, hh⟩ := hP
  have hx := Bd.exec
  have hby := Bd.bytes
  have hml : c.maxLocals = 6 := hml0
  have hown : s.vm.findClass "java/lang/String" = some m.cls := findClass_of_methodNamed Bd.named
  have hnm := (name_of_methodNamed Bd.named Bd.method).1
  have X0 : Stand p l e ({ frames := 4, cells := 2, slots := 15, locals := 57 } : Room) s m #[(.ref a1), (.ref a2), (.int (0 : Int32)), (.int (Int32.ofNat N)), .null] below meth c s₁ [] 0 0 := Stand.of_body Bd
  have e0 : s₁.heap = h0 := by rw [← hh, Bd.state]; rfl
  have N0 := Fr.nil n0
  have K0 : Keep h0 h0 [a1] := Keep.refl _ _
  have pre0 : ∀ tg, Steps p.tables e below (s₁.setTop (mkF m 0 #[.val (.ref a1), .val (.ref a2), .val (.int (0 : Int32)), .val (.int (Int32.ofNat N)), .val .null, .unset] [])) tg → Steps p.tables e below (s₁.setTop (entryFrame m #[(.ref a1), (.ref a2), (.int (0 : Int32)), (.int (Int32.ofNat N)), .null] 6)) tg := fun tg k => castTop (ef_8 m a1 a2 (Int32.ofNat N)) k
  have hn0 : ¬ ((Int32.ofNat N) = 0) := own_n0 h1N (by omega)
  have st1 : ∀ tg, Steps p.tables e below (s₁.setTop (mkF m 1 #[.val (.ref a1), .val (.ref a2), .val (.int (0 : Int32)), .val (.int (Int32.ofNat N)), .val .null, .unset] [(.ref a1)])) tg → Steps p.tables e below (s₁.setTop (mkF m 0 #[.val (.ref a1), .val (.ref a2), .val (.int (0 : Int32)), .val (.int (Int32.ofNat N)), .val .null, .unset] [])) tg := by
    intro tg kt
    refine XS.aloadN X0.here hx rfl (hb hby d8_0) rfl rfl ?_
    exact kt
  obtain ⟨T2, X2, e2, st2⟩ := initO X0 hx hZ hown (hw _ (List.mem_of_getElem? (i := 48) rfl)) (hw _ (List.mem_of_getElem? (i := 49) rfl)) (hw _ (List.mem_of_getElem? (i := 50) rfl)) e0 (g := (mkF m 1 #[.val (.ref a1), .val (.ref a2), .val (.int (0 : Int32)), .val (.int (Int32.ofNat N)), .val .null, .unset] [(.ref a1)])) rfl (by rw [hml]; rfl) rfl (hb hby d8_1) (by decide) (W := 0) (by show 2 * 0 + _ ≤ _; exact Nat.le_of_eq rfl) (by decide)
  have st3 : ∀ tg, Steps p.tables e below (T2.setTop (mkF m 27 #[.val (.ref a1), .val (.ref a2), .val (.int (0 : Int32)), .val (.int (Int32.ofNat N)), .val .null, .unset] [])) tg → Steps p.tables e below (T2.setTop (mkF m 4 #[.val (.ref a1), .val (.ref a2), .val (.int (0 : Int32)), .val (.int (Int32.ofNat N)), .val .null, .unset] [])) tg := by
    intro tg kt
    refine XS.iloadN X2.here hx rfl (hb hby d8_4) rfl ?_
    refine XS.ifYes X2.here hx rfl (pc0 := 5) (pc' := 27) rfl (hb hby d8_5) rfl (XT.i0_ne_t hn0) (by decide) (by decide) ?_
    exact kt
  obtain ⟨T4, X4, e4, st4⟩ := getS2 X2 hx hZ hown (host := "") (Or.inl (hw _ (List.mem_of_getElem? (i := 25) rfl))) Via.refl e2 (Sta.ext OLD.2 S_c) (g := (mkF m 27 #[.val (.ref a1), .val (.ref a2), .val (.int (0 : Int32)), .val (.int (Int32.ofNat N)), .val .null, .unset] [])) rfl (hb hby d8_27)
  have st5 : ∀ tg, Steps p.tables e below (T4.setTop (mkF m 36 #[.val (.ref a1), .val (.ref a2), .val (.int (0 : Int32)), .val (.int (Int32.ofNat N)), .val .null, .unset] [(.int (Int32.ofNat N)), (.int (0 : Int32)), (.ref a2)])) tg → Steps p.tables e below (T4.setTop (mkF m 30 #[.val (.ref a1), .val (.ref a2), .val (.int (0 : Int32)), .val (.int (Int32.ofNat N)), .val .null, .unset] [(.int wc)])) tg := by
    intro tg kt
    refine XS.ifNo X4.here hx rfl (hb hby d8_30) rfl (XT.i0_eq_f hwc) ?_
    refine XS.aloadN X4.here hx rfl (hb hby d8_33) rfl rfl ?_
    refine XS.iloadN X4.here hx rfl (hb hby d8_34) rfl ?_
    refine XS.iloadN X4.here hx rfl (hb hby d8_35) rfl ?_
    exact kt
  obtain ⟨_, _, ⟨T6, L6, k6, n6⟩, -, X6, ⟨Lc6, hQ6, l6, y6, z6⟩, st6⟩ := Jvm.LawKit.callS X4 hx (y := (⟨"java/lang/StringUTF16", "compress", "([CII)[B"⟩ : MethodName)) hown (mvT hZ (hw _ (List.mem_of_getElem? (i := 92) rfl))) (mvT hZ (hw _ (List.mem_of_getElem? (i := 93) rfl))) (mvT hZ (hw _ (List.mem_of_getElem? (i := 94) rfl))) (mvT hZ (hw _ (List.mem_of_getElem? (i := 95) rfl))) (by decide) (backOf (W := 0) (rm20 l Z a0 hw [] a2 N C h0 n0 Z0 OLD S_a S_h S_l hN5 FA hC) hZ (hw _ (List.mem_of_getElem? (i := 95) rfl)) (hw _ (List.mem_of_getElem? (i := 94) rfl)) (by decide) (by decide)) (g := (mkF m 36 #[.val (.ref a1), .val (.ref a2), .val (.int (0 : Int32)), .val (.int (Int32.ofNat N)), .val .null, .unset] [(.int (Int32.ofNat N)), (.int (0 : Int32)), (.ref a2)])) rfl (by rw [hml]; rfl) (argsL := [(.ref a2), (.int (0 : Int32)), (.int (Int32.ofNat N))]) (rest := []) (lenOf pd_21 rfl) rfl (by show 2 * 0 + _ ≤ _; exact Nat.le_of_eq rfl) (hb hby d8_36) (fun _ _ => ⟨rfl, e4, (by decide : 0 + 2 ≤ _), (by decide : 0 + 15 ≤ _)⟩)
  dsimp only [Pt.U, Pt.locs, Pt.cells, Pt.slots] at X6 l6 y6 z6 st6 hQ6
  subst l6 y6 z6
  obtain ⟨b6, rfl, N6q, K6q, g_b6, sz6q, hr6⟩ := hQ6
  have N6 := Fr.app N0 N6q
  have ne_a1_b6 : a1 ≠ b6 := Nat.ne_of_lt (Nat.lt_of_lt_of_le FE.lt sz6q)
  have ne_a2_b6 : a2 ≠ b6 := Nat.ne_of_lt (Nat.lt_of_lt_of_le FA.lt sz6q)
  have sz_b6 : h0.size ≤ b6 := Nat.le_trans K0.1 sz6q
  have G7 : Old Z n0 T6.heap := OLD.keep K6q (all0)
  have G8 : Exa Z T6.heap a1 "java/lang/String" := FE.keep K6q
  have G9 : Fld Z T6.heap a1 "java/lang/String" "value" "[B" .null := FV.keep K6q (nin0)
  have G10 : Fld Z T6.heap a1 "java/lang/String" "coder" "B" (.int (0 : Int32)) := FC.keep K6q (nin0)
  have G11 : ArF Z T6.heap a2 .char N C := FA.keep K6q (nin0)
  have K6 : Keep h0 T6.heap [a1] := K0.trans K6q all0
  have Z6 : n0 ≤ T6.heap.size := Nat.le_trans Z0 K6q.1
  rcases hr6 with ⟨hall, B6, VR6, hB6⟩ | ⟨B6, VR6, hB6⟩
  · -- Latin-1
    have st12 : ∀ tg, Steps p.tables e below (T6.setTop (mkF m 45 #[.val (.ref a1), .val (.ref a2), .val (.int (0 : Int32)), .val (.int (Int32.ofNat N)), .val .null, .val (.ref b6)] [(.int (Int32.ofNat N)), (.ref b6), (.ref a1)])) tg → Steps p.tables e below (T6.setTop (mkF m 39 #[.val (.ref a1), .val (.ref a2), .val (.int (0 : Int32)), .val (.int (Int32.ofNat N)), .val .null, .unset] [(.ref b6)])) tg := by
      intro tg kt
      refine XS.astore X6.here hx rfl (hb hby d8_39) rfl rfl (l' := #[.val (.ref a1), .val (.ref a2), .val (.int (0 : Int32)), .val (.int (Int32.ofNat N)), .val .null, .val (.ref b6)]) rfl ?_
      refine XS.aloadN X6.here hx rfl (hb hby d8_41) rfl rfl ?_
      refine XS.aload X6.here hx rfl (hb hby d8_42) rfl rfl ?_
      refine XS.iloadN X6.here hx rfl (hb hby d8_44) rfl ?_
      exact kt
    obtain ⟨_, _, ⟨T13, L13, k13, n13⟩, -, X13, ⟨Lc13, hQ13, l13, y13, z13⟩, st13⟩ := Jvm.LawKit.callS X6 hx (y := (⟨"java/lang/StringUTF16", "coderFromArrayLen", "([BI)B"⟩ : MethodName)) hown (mvT hZ (hw _ (List.mem_of_getElem? (i := 99) rfl))) (mvT hZ (hw _ (List.mem_of_getElem? (i := 100) rfl))) (mvT hZ (hw _ (List.mem_of_getElem? (i := 94) rfl))) (mvT hZ (hw _ (List.mem_of_getElem? (i := 101) rfl))) (by decide) (backOf (W := 1) (rm22l l Z a0 hw [] b6 N B6 T6.heap n0 Z6 hN5 h1N VR6) hZ (hw _ (List.mem_of_getElem? (i := 101) rfl)) (hw _ (List.mem_of_getElem? (i := 94) rfl)) (by decide) (by decide)) (g := (mkF m 45 #[.val (.ref a1), .val (.ref a2), .val (.int (0 : Int32)), .val (.int (Int32.ofNat N)), .val .null, .val (.ref b6)] [(.int (Int32.ofNat N)), (.ref b6), (.ref a1)])) rfl (by rw [hml]; rfl) (argsL := [(.ref b6), (.int (Int32.ofNat N))]) (rest := [(.ref a1)]) (lenOf pd_22 rfl) rfl (by show 2 * 0 + _ ≤ _; exact Nat.le_of_eq rfl) (hb hby d8_45) (fun _ _ => ⟨rfl, rfl, (by decide : 2 + 0 ≤ _), (by decide : 15 + 0 ≤ _)⟩)
    dsimp only [Pt.U, Pt.locs, Pt.cells, Pt.slots] at X13 l13 y13 z13 st13 hQ13
    subst l13 y13 z13
    obtain ⟨rfl, N13q, e13⟩ := hQ13
    have N13 := Fr.app N6 N13q
    obtain ⟨T14, h14, X14, e14, W14, st14⟩ := putFN X13 hx hZ hown (hw _ (List.mem_of_getElem? (i := 26) rfl)) Via.refl e13 G10 G8 (Or.inr ⟨(hw _ (List.mem_of_getElem? (i := 12) rfl)), rfl, hnm⟩) (hw _ (List.mem_of_getElem? (i := 9) rfl)) (ty := .byte) (v' := .int (0 : Int32)) (by decide) rfl (by decide) (g := (mkF m 48 #[.val (.ref a1), .val (.ref a2), .val (.int (0 : Int32)), .val (.int (Int32.ofNat N)), .val .null, .val (.ref b6)] [(.int (0 : Int32)), (.ref a1)])) rfl rfl (hb hby d8_48)
    have N14 := Fr.snoc X14 N13 g_a1
    have K14 : Keep h0 h14 [a1] := K6.wr W14 (Or.inl (List.mem_of_getElem? (i := 0) rfl))
    have Z14 : n0 ≤ h14.size := Nat.le_trans Z6 (Keep.of_wr W14).1
    have G15 : Old Z n0 h14 := G7.wr W14 g_a1
    have G16 : Exa Z h14 a1 "java/lang/String" := G8.wr W14
    have G17 : Fld Z h14 a1 "java/lang/String" "value" "[B" .null := G9.other W14 (Or.inr (slot_ne (Or.inr (hw _ (List.mem_of_getElem? (i := 11) rfl))) (Or.inr (hw _ (List.mem_of_getElem? (i := 12) rfl))) (by decide) (t := (.array .byte)) (t' := .byte) (by decide) (by decide)))
    have G18 : ArF Z h14 a2 .char N C := G11.other W14 ne21
    have G19 : ArF Z h14 b6 .byte N B6 := VR6.other W14 (Ne.symm ne_a1_b6)
    have G20 : Fld Z h14 a1 "java/lang/String" "coder" "B" (.int (0 : Int32)) := G10.same W14
    have st21 : ∀ tg, Steps p.tables e below (T14.setTop (mkF m 54 #[.val (.ref a1), .val (.ref a2), .val (.int (0 : Int32)), .val (.int (Int32.ofNat N)), .val .null, .val (.ref b6)] [(.ref b6), (.ref a1)])) tg → Steps p.tables e below (T14.setTop (mkF m 51 #[.val (.ref a1), .val (.ref a2), .val (.int (0 : Int32)), .val (.int (Int32.ofNat N)), .val .null, .val (.ref b6)] [])) tg := by
      intro tg kt
      refine XS.aloadN X14.here hx rfl (hb hby d8_51) rfl rfl ?_
      refine XS.aload X14.here hx rfl (hb hby d8_52) rfl rfl ?_
      exact kt
    obtain ⟨T22, h22, X22, e22, W22, st22⟩ := putF X14 hx hZ hown (host := "") (Or.inl (hw _ (List.mem_of_getElem? (i := 27) rfl))) Via.refl e14 G17 G16 (Or.inr ⟨(hw _ (List.mem_of_getElem? (i := 11) rfl)), rfl, hnm⟩) (hw _ (List.mem_of_getElem? (i := 9) rfl)) (ty := (.array .byte)) (by decide) rfl rfl (g := (mkF m 54 #[.val (.ref a1), .val (.ref a2), .val (.int (0 : Int32)), .val (.int (Int32.ofNat N)), .val .null, .val (.ref b6)] [(.ref b6), (.ref a1)])) rfl rfl (hb hby d8_54)
    have N22 := Fr.snoc X22 N14 g_a1
    have K22 : Keep h0 h22 [a1] := K14.wr W22 (Or.inl (List.mem_of_getElem? (i := 0) rfl))
    have Z22 : n0 ≤ h22.size := Nat.le_trans Z14 (Keep.of_wr W22).1
    have G23 : Old Z n0 h22 := G15.wr W22 g_a1
    have G24 : Exa Z h22 a1 "java/lang/String" := G16.wr W22
    have G25 : ArF Z h22 a2 .char N C := G18.other W22 ne21
    have G26 : ArF Z h22 b6 .byte N B6 := G19.other W22 (Ne.symm ne_a1_b6)
    have G27 : Fld Z h22 a1 "java/lang/String" "coder" "B" (.int (0 : Int32)) := G20.other W22 (Or.inr (slot_ne (Or.inr (hw _ (List.mem_of_getElem? (i := 12) rfl))) (Or.inr (hw _ (List.mem_of_getElem? (i := 11) rfl))) (by decide) (t := .byte) (t' := (.array .byte)) (by decide) (by decide)))
    have G28 : Fld Z h22 a1 "java/lang/String" "value" "[B" (.ref b6) := G17.same W22
    obtain ⟨fs, hr, hrun, hended, hW, hsame⟩ := X22.leave (v := none) (fun _ => rfl)
    refine ⟨_, _, pre0 _ ?_, hrun, hended, _, _, rfl, ?_, ⟨_, rfl⟩, hW, hsame.mono (by decide) (by decide)⟩
    · refine st1 _ ?_
      show Steps p.tables e below (s₁.setTop (mkF m 1 #[.val (.ref a1), .val (.ref a2), .val (.int (0 : Int32)), .val (.int (Int32.ofNat N)), .val .null, .unset] [(.ref a1)])) _
      refine st2 _ ?_
      refine st3 _ ?_
      show Steps p.tables e below (T2.setTop (mkF m 27 #[.val (.ref a1), .val (.ref a2), .val (.int (0 : Int32)), .val (.int (Int32.ofNat N)), .val .null, .unset] [])) _
      refine st4 _ ?_
      refine st5 _ ?_
      show Steps p.tables e below (T4.setTop (mkF m 36 #[.val (.ref a1), .val (.ref a2), .val (.int (0 : Int32)), .val (.int (Int32.ofNat N)), .val .null, .unset] [(.int (Int32.ofNat N)), (.int (0 : Int32)), (.ref a2)])) _
      refine st6 _ ?_
      refine st12 _ ?_
      show Steps p.tables e below (T6.setTop (mkF m 45 #[.val (.ref a1), .val (.ref a2), .val (.int (0 : Int32)), .val (.int (Int32.ofNat N)), .val .null, .val (.ref b6)] [(.int (Int32.ofNat N)), (.ref b6), (.ref a1)])) _
      refine st13 _ ?_
      show Steps p.tables e below (T13.setTop (mkF m 48 #[.val (.ref a1), .val (.ref a2), .val (.int (0 : Int32)), .val (.int (Int32.ofNat N)), .val .null, .val (.ref b6)] [(.int (0 : Int32)), (.ref a1)])) _
      refine st14 _ ?_
      refine st21 _ ?_
      show Steps p.tables e below (T14.setTop (mkF m 54 #[.val (.ref a1), .val (.ref a2), .val (.int (0 : Int32)), .val (.int (Int32.ofNat N)), .val .null, .val (.ref b6)] [(.ref b6), (.ref a1)])) _
      refine st22 _ ?_
      show Steps p.tables e below (T22.setTop (mkF m 57 #[.val (.ref a1), .val (.ref a2), .val (.int (0 : Int32)), .val (.int (Int32.ofNat N)), .val .null, .val (.ref b6)] [])) _
      exact X22.returnOut hx Bd.returns (hb hby d8_57) hr
    · show Q8 Z a1 a2 N C wc h0 n0 _ T22.heap _
      rw [e22]
      exact ⟨rfl, N22, K22, b6, _, hC, Or.inl ⟨G24, G28, G27, G26, fun t ht => ⟨hB6 t ht, hall t ht⟩⟩⟩
  · -- UTF-16
    have st29 : ∀ tg, Steps p.tables e below (T6.setTop (mkF m 45 #[.val (.ref a1), .val (.ref a2), .val (.int (0 : Int32)), .val (.int (Int32.ofNat N)), .val .null, .val (.ref b6)] [(.int (Int32.ofNat N)), (.ref b6), (.ref a1)])) tg → Steps p.tables e below (T6.setTop (mkF m 39 #[.val (.ref a1), .val (.ref a2), .val (.int (0 : Int32)), .val (.int (Int32.ofNat N)), .val .null, .unset] [(.ref b6)])) tg := by
      intro tg kt
      refine XS.astore X6.here hx rfl (hb hby d8_39) rfl rfl (l' := #[.val (.ref a1), .val (.ref a2), .val (.int (0 : Int32)), .val (.int (Int32.ofNat N)), .val .null, .val (.ref b6)]) rfl ?_
      refine XS.aloadN X6.here hx rfl (hb hby d8_41) rfl rfl ?_
      refine XS.aload X6.here hx rfl (hb hby d8_42) rfl rfl ?_
      refine XS.iloadN X6.here hx rfl (hb hby d8_44) rfl ?_
      exact kt
    obtain ⟨_, _, ⟨T30, L30, k30, n30⟩, -, X30, ⟨Lc30, hQ30, l30, y30, z30⟩, st30⟩ := Jvm.LawKit.callS X6 hx (y := (⟨"java/lang/StringUTF16", "coderFromArrayLen", "([BI)B"⟩ : MethodName)) hown (mvT hZ (hw _ (List.mem_of_getElem? (i := 99) rfl))) (mvT hZ (hw _ (List.mem_of_getElem? (i := 100) rfl))) (mvT hZ (hw _ (List.mem_of_getElem? (i := 94) rfl))) (mvT hZ (hw _ (List.mem_of_getElem? (i := 101) rfl))) (by decide) (backOf (W := 1) (rm22u l Z a0 hw [] b6 N B6 T6.heap n0 Z6 hN5 h1N VR6) hZ (hw _ (List.mem_of_getElem? (i := 101) rfl)) (hw _ (List.mem_of_getElem? (i := 94) rfl)) (by decide) (by decide)) (g := (mkF m 45 #[.val (.ref a1), .val (.ref a2), .val (.int (0 : Int32)), .val (.int (Int32.ofNat N)), .val .null, .val (.ref b6)] [(.int (Int32.ofNat N)), (.ref b6), (.ref a1)])) rfl (by rw [hml]; rfl) (argsL := [(.ref b6), (.int (Int32.ofNat N))]) (rest := [(.ref a1)]) (lenOf pd_22 rfl) rfl (by show 2 * 0 + _ ≤ _; exact Nat.le_of_eq rfl) (hb hby d8_45) (fun _ _ => ⟨rfl, rfl, (by decide : 2 + 0 ≤ _), (by decide : 15 + 0 ≤ _)⟩)
    dsimp only [Pt.U, Pt.locs, Pt.cells, Pt.slots] at X30 l30 y30 z30 st30 hQ30
    subst l30 y30 z30
    obtain ⟨rfl, N30q, e30⟩ := hQ30
    have N30 := Fr.app N6 N30q
    obtain ⟨T31, h31, X31, e31, W31, st31⟩ := putFN X30 hx hZ hown (hw _ (List.mem_of_getElem? (i := 26) rfl)) Via.refl e30 G10 G8 (Or.inr ⟨(hw _ (List.mem_of_getElem? (i := 12) rfl)), rfl, hnm⟩) (hw _ (List.mem_of_getElem? (i := 9) rfl)) (ty := .byte) (v' := .int (1 : Int32)) (by decide) rfl (by decide) (g := (mkF m 48 #[.val (.ref a1), .val (.ref a2), .val (.int (0 : Int32)), .val (.int (Int32.ofNat N)), .val .null, .val (.ref b6)] [(.int (1 : Int32)), (.ref a1)])) rfl rfl (hb hby d8_48)
    have N31 := Fr.snoc X31 N30 g_a1
    have K31 : Keep h0 h31 [a1] := K6.wr W31 (Or.inl (List.mem_of_getElem? (i := 0) rfl))
    have Z31 : n0 ≤ h31.size := Nat.le_trans Z6 (Keep.of_wr W31).1
    have G32 : Old Z n0 h31 := G7.wr W31 g_a1
    have G33 : Exa Z h31 a1 "java/lang/String" := G8.wr W31
    have G34 : Fld Z h31 a1 "java/lang/String" "value" "[B" .null := G9.other W31 (Or.inr (slot_ne (Or.inr (hw _ (List.mem_of_getElem? (i := 11) rfl))) (Or.inr (hw _ (List.mem_of_getElem? (i := 12) rfl))) (by decide) (t := (.array .byte)) (t' := .byte) (by decide) (by decide)))
    have G35 : ArF Z h31 a2 .char N C := G11.other W31 ne21
    have G36 : ArF Z h31 b6 .byte (2 * N) B6 := VR6.other W31 (Ne.symm ne_a1_b6)
    have G37 : Fld Z h31 a1 "java/lang/String" "coder" "B" (.int (1 : Int32)) := G10.same W31
    have st38 : ∀ tg, Steps p.tables e below (T31.setTop (mkF m 54 #[.val (.ref a1), .val (.ref a2), .val (.int (0 : Int32)), .val (.int (Int32.ofNat N)), .val .null, .val (.ref b6)] [(.ref b6), (.ref a1)])) tg → Steps p.tables e below (T31.setTop (mkF m 51 #[.val (.ref a1), .val (.ref a2), .val (.int (0 : Int32)), .val (.int (Int32.ofNat N)), .val .null, .val (.ref b6)] [])) tg := by
      intro tg kt
      refine XS.aloadN X31.here hx rfl (hb hby d8_51) rfl rfl ?_
      refine XS.aload X31.here hx rfl (hb hby d8_52) rfl rfl ?_
      exact kt
    obtain ⟨T39, h39, X39, e39, W39, st39⟩ := putF X31 hx hZ hown (host := "") (Or.inl (hw _ (List.mem_of_getElem? (i := 27) rfl))) Via.refl e31 G34 G33 (Or.inr ⟨(hw _ (List.mem_of_getElem? (i := 11) rfl)), rfl, hnm⟩) (hw _ (List.mem_of_getElem? (i := 9) rfl)) (ty := (.array .byte)) (by decide) rfl rfl (g := (mkF m 54 #[.val (.ref a1), .val (.ref a2), .val (.int (0 : Int32)), .val (.int (Int32.ofNat N)), .val .null, .val (.ref b6)] [(.ref b6), (.ref a1)])) rfl rfl (hb hby d8_54)
    have N39 := Fr.snoc X39 N31 g_a1
    have K39 : Keep h0 h39 [a1] := K31.wr W39 (Or.inl (List.mem_of_getElem? (i := 0) rfl))
    have Z39 : n0 ≤ h39.size := Nat.le_trans Z31 (Keep.of_wr W39).1
    have G40 : Old Z n0 h39 := G32.wr W39 g_a1
    have G41 : Exa Z h39 a1 "java/lang/String" := G33.wr W39
    have G42 : ArF Z h39 a2 .char N C := G35.other W39 ne21
    have G43 : ArF Z h39 b6 .byte (2 * N) B6 := G36.other W39 (Ne.symm ne_a1_b6)
    have G44 : Fld Z h39 a1 "java/lang/String" "coder" "B" (.int (1 : Int32)) := G37.other W39 (Or.inr (slot_ne (Or.inr (hw _ (List.mem_of_getElem? (i := 12) rfl))) (Or.inr (hw _ (List.mem_of_getElem? (i := 11) rfl))) (by decide) (t := .byte) (t' := (.array .byte)) (by decide) (by decide)))
    have G45 : Fld Z h39 a1 "java/lang/String" "value" "[B" (.ref b6) := G34.same W39
    obtain ⟨fs, hr, hrun, hended, hW, hsame⟩ := X39.leave (v := none) (fun _ => rfl)
    refine ⟨_, _, pre0 _ ?_, hrun, hended, _, _, rfl, ?_, ⟨_, rfl⟩, hW, hsame.mono (by decide) (by decide)⟩
    · refine st1 _ ?_
      show Steps p.tables e below (s₁.setTop (mkF m 1 #[.val (.ref a1), .val (.ref a2), .val (.int (0 : Int32)), .val (.int (Int32.ofNat N)), .val .null, .unset] [(.ref a1)])) _
      refine st2 _ ?_
      refine st3 _ ?_
      show Steps p.tables e below (T2.setTop (mkF m 27 #[.val (.ref a1), .val (.ref a2), .val (.int (0 : Int32)), .val (.int (Int32.ofNat N)), .val .null, .unset] [])) _
      refine st4 _ ?_
      refine st5 _ ?_
      show Steps p.tables e below (T4.setTop (mkF m 36 #[.val (.ref a1), .val (.ref a2), .val (.int (0 : Int32)), .val (.int (Int32.ofNat N)), .val .null, .unset] [(.int (Int32.ofNat N)), (.int (0 : Int32)), (.ref a2)])) _
      refine st6 _ ?_
      refine st29 _ ?_
      show Steps p.tables e below (T6.setTop (mkF m 45 #[.val (.ref a1), .val (.ref a2), .val (.int (0 : Int32)), .val (.int (Int32.ofNat N)), .val .null, .val (.ref b6)] [(.int (Int32.ofNat N)), (.ref b6), (.ref a1)])) _
      refine st30 _ ?_
      show Steps p.tables e below (T30.setTop (mkF m 48 #[.val (.ref a1), .val (.ref a2), .val (.int (0 : Int32)), .val (.int (Int32.ofNat N)), .val .null, .val (.ref b6)] [(.int (1 : Int32)), (.ref a1)])) _
      refine st31 _ ?_
      refine st38 _ ?_
      show Steps p.tables e below (T31.setTop (mkF m 54 #[.val (.ref a1), .val (.ref a2), .val (.int (0 : Int32)), .val (.int (Int32.ofNat N)), .val .null, .val (.ref b6)] [(.ref b6), (.ref a1)])) _
      refine st39 _ ?_
      show Steps p.tables e below (T39.setTop (mkF m 57 #[.val (.ref a1), .val (.ref a2), .val (.int (0 : Int32)), .val (.int (Int32.ofNat N)), .val .null, .val (.ref b6)] [])) _
      exact X39.returnOut hx Bd.returns (hb hby d8_57) hr
    · show Q8 Z a1 a2 N C wc h0 n0 _ T39.heap _
      rw [e39]
      exact ⟨rfl, N39, K39, b6, _, hC, Or.inr ⟨G41, G45, G44, G43, hB6⟩⟩
theorem d7_0 : decode jdk_42_method_3_code 0 = .ok (.aload_n 0, 1) := by decide +kernel
theorem d7_1 : decode jdk_42_method_3_code 1 = .ok (.aload_n 1, 1) := by decide +kernel
theorem d7_2 : decode jdk_42_method_3_code 2 = .ok (.iconst 0, 1) := by decide +kernel
theorem d7_3 : decode jdk_42_method_3_code 3 = .ok (.aload_n 1, 1) := by decide +kernel
theorem d7_4 : decode jdk_42_method_3_code 4 = .ok (.arraylength, 1) := by decide +kernel
theorem d7_5 : decode jdk_42_method_3_code 5 = .ok (.aconst_null, 1) := by decide +kernel
theorem d7_6 : decode jdk_42_method_3_code 6 = .ok (.invokespecial 27, 3) := by decide +kernel
theorem d7_9 : decode jdk_42_method_3_code 9 = .ok (.return_, 1) := by decide +kernel
theorem pn_7 : plainName "java/lang/String" = true := by first | (simp [plainName, overriddenIn]; done) | decide +kernel
theorem ef_7 (m : MethodId) (a1 : Addr) (a2 : Addr) : entryFrame m #[(.ref a1), (.ref a2)] 2 = mkF m 0 #[.val (.ref a1), .val (.ref a2)] [] := by first | (simp [entryFrame, mkF, argsToLocals, Value.category]; done) | rfl
def Q7 (Z : State) (a1 : Addr) (a2 : Addr) (N : Nat) (C : Nat → Int32) (wc : Int32) (h0 : Heap) (n0 : Nat) (v : Option Value) (h : Heap) (L : List Loc) : Prop := v = none ∧ Fr n0 L ∧ Keep h0 h [a1] ∧ StrF Z h a1 N C
set_option maxRecDepth 65536 in
set_option maxHeartbeats 40000000 in
theorem rm7 (l : Launch) (Z : State) (a0 : Array Value) (hw : ∀ d ∈ tables_1, d.before a0 Z = true) (ws : List Jvm.Cond) (a1 : Addr) (a2 : Addr) (N : Nat) (C : Nat → Int32) (wc : Int32) (h0 : Heap) (n0 : Nat) (Z0 : n0 ≤ h0.size) (OLD : Old Z n0 h0) (S_c : Sta Z Z.heap "java/lang/String" "COMPACT_STRINGS" "Z" (.int wc)) (hwc : ¬ wc = 0) (S_a : Sta Z Z.heap "java/lang/StringUTF16" "$assertionsDisabled" "Z" (.int (1 : Int32))) (S_h : Sta Z Z.heap "java/lang/StringUTF16" "HI_BYTE_SHIFT" "I" (.int (0 : Int32))) (S_l : Sta Z Z.heap "java/lang/StringUTF16" "LO_BYTE_SHIFT" "I" (.int (8 : Int32))) (hN5 : N ≤ 5) (h1N : 1 ≤ N) (hC : ∀ t, t < N → IsCh (C t)) (FE : Exa Z h0 a1 "java/lang/String") (FV : Fld Z h0 a1 "java/lang/String" "value" "[B" .null) (FC : Fld Z h0 a1 "java/lang/String" "coder" "B" (.int (0 : Int32))) (FA : ArF Z h0 a2 .char N C) (g_a1 : n0 ≤ a1) (ne21 : a2 ≠ a1) :
    MetFree l (⟨"java/lang/String", "<init>", "([C)V"⟩ : MethodName) (head1 (Jvm.Cond.code (⟨"java/lang/String", "<init>", "([C)V"⟩ : MethodName) jdk_42_method_3_code 2 none :: ws) ({ frames := 5, cells := 2, slots := 15, locals := 74 } : Room)) (fun a U => a = #[(.ref a1), (.ref a2)] ∧ Z.Warmed39 U.vm ∧ U.heap = h0) (fun _ _ _ _ _ => True) (fun _ U oo U' => ∃ v L, oo = .returned v ∧ Q7 Z a1 a2 N C wc h0 n0 v U'.heap L ∧ FrameEnd U oo U' L ({ frames := 5, cells := 2, slots := 15, locals := 74 } : Room).cells ({ frames := 5, cells := 2, slots := 15, locals := 74 } : Room).slots) := by
  refine MetFree.of_bodySF (plainFor_of_name pn_7) hisR ?_
  intro p e s m args below meth c s₁ Bd hml0 hP hK
  obtain ⟨rfl, hZ, hh⟩ := hP
  have hx := Bd.exec
  have hby := Bd.bytes
  have hml : c.maxLocals = 2 := hml0
  have hown : s.vm.findClass "java/lang/String" = some m.cls := findClass_of_methodNamed Bd.named
  have hnm := (name_of_methodNamed Bd.named Bd.method).1
  have X0 : Stand p l e ({ frames := 5, cells := 2, slots := 15, locals := 74 } : Room) s m #[(.ref a1), (.ref a2)] below meth c s₁ [] 0 0 := Stand.of_body Bd
  have e0 : s₁.heap = h0 := by rw [← hh, Bd.state]; rfl
  have N0 := Fr.nil n0
  have K0 : Keep h0 h0 [a1] := Keep.refl _ _
  have pre0 : ∀ tg, Steps p.tables e below (s₁.setTop (mkF m 0 #[.val (.ref a1), .val (.ref a2)] [])) tg → Steps p.tables e below (s₁.setTop (entryFrame m #[(.ref a1), (.ref a2)] 2)) tg := fun tg k => castTop (ef_7 m a1 a2) k
  have st2 : ∀ tg, Steps p.tables e below (s₁.setTop (mkF m 4 #[.val (.ref a1), .val (.ref a2)] [(.ref a2), (.int (0 : Int32)), (.ref a2), (.ref a1)])) tg → Steps p.tables e below (s₁.setTop (mkF m 0 #[.val (.ref a1), .val (.ref a2)] [])) tg := by
    intro tg kt
    refine XS.aloadN X0.here hx rfl (hb hby d7_0) rfl rfl ?_
    refine XS.aloadN X0.here hx rfl (hb hby d7_1) rfl rfl ?_
    refine XS.iconst X0.here hx rfl (hb hby d7_2) ?_
    refine XS.aloadN X0.here hx rfl (hb hby d7_3) rfl rfl ?_
    exact kt
  obtain ⟨cl1, Ar1, Sa1, Ha1⟩ := id FA
  have st3 : ∀ tg, Steps p.tables e below (s₁.setTop (mkF m 6 #[.val (.ref a1), .val (.ref a2)] [.null, (.int (Int32.ofNat N)), (.int (0 : Int32)), (.ref a2), (.ref a1)])) tg → Steps p.tables e below (s₁.setTop (mkF m 4 #[.val (.ref a1), .val (.ref a2)] [(.ref a2), (.int (0 : Int32)), (.ref a2), (.ref a1)])) tg := by
    intro tg kt
    refine X0.arraylength hx (by rw [e0]; exact Ar1.1) (State.isArrayOf_alike hZ.alike Ar1.2.1) (g := (mkF m 4 #[.val (.ref a1), .val (.ref a2)] [(.ref a2), (.int (0 : Int32)), (.ref a2), (.ref a1)])) rfl rfl (hb hby d7_4) _ ?_
    rw [show cl1.slots.size.toInt32 = Int32.ofNat N from congrArg Int32.ofNat Sa1]
    refine XS.aconstNull X0.here hx rfl (hb hby d7_5) ?_
    exact kt
  obtain ⟨_, _, ⟨T4, L4, k4, n4⟩, -, X4, ⟨Lc4, hQ4, l4, y4, z4⟩, st4⟩ := X0.specialBack hx (y := (⟨"java/lang/String", "<init>", "([CIILjava/lang/Void;)V"⟩ : MethodName)) rfl hown (mvT hZ (hw _ (List.mem_of_getElem? (i := 44) rfl))) (mvT hZ (hw _ (List.mem_of_getElem? (i := 45) rfl))) (mvT hZ (hw _ (List.mem_of_getElem? (i := 47) rfl))) (by decide) (backOf (W := 0) (rm8 l Z a0 hw [] a1 a2 N C wc h0 n0 Z0 OLD S_c hwc S_a S_h S_l hN5 h1N hC FE FV FC FA g_a1 ne21) hZ (hw _ (List.mem_of_getElem? (i := 47) rfl)) (hw _ (List.mem_of_getElem? (i := 8) rfl)) (by decide) (by decide)) (g := (mkF m 6 #[.val (.ref a1), .val (.ref a2)] [.null, (.int (Int32.ofNat N)), (.int (0 : Int32)), (.ref a2), (.ref a1)])) rfl (by rw [hml]; rfl) (Steps.refl _) (a := a1) (argsL := [(.ref a2), (.int (0 : Int32)), (.int (Int32.ofNat N)), .null]) (rest := []) (lenOf pd_23 rfl) rfl (by show 2 * 0 + _ ≤ _; exact Nat.le_of_eq rfl) (hb hby d7_6) (fun _ _ => ⟨rfl, e0, (by decide : 0 + 2 ≤ _), (by decide : 0 + 15 ≤ _)⟩)
  dsimp only [Pt.U, Pt.locs, Pt.cells, Pt.slots] at X4 l4 y4 z4 st4 hQ4
  subst l4 y4 z4
  obtain ⟨rfl, N4q, K4q, S4q⟩ := hQ4
  have N4 := Fr.app N0 N4q
  obtain ⟨fs, hr, hrun, hended, hW, hsame⟩ := X4.leave (v := none) (fun _ => rfl)
  refine ⟨_, _, pre0 _ ?_, hrun, hended, _, _, rfl, ?_, ⟨_, rfl⟩, hW, hsame.mono (by decide) (by decide)⟩
  · refine st2 _ ?_
    refine st3 _ ?_
    show Steps p.tables e below (s₁.setTop (mkF m 6 #[.val (.ref a1), .val (.ref a2)] [.null, (.int (Int32.ofNat N)), (.int (0 : Int32)), (.ref a2), (.ref a1)])) _
    refine st4.trans ?_
    show Steps p.tables e below (T4.setTop (mkF m 9 #[.val (.ref a1), .val (.ref a2)] [])) _
    exact X4.returnOut hx Bd.returns (hb hby d7_9) hr
  · show Q7 Z a1 a2 N C wc h0 n0 _ T4.heap _
    skip
    exact ⟨rfl, N4, K4q, S4q⟩
theorem d8_8 : decode jdk_42_method_149_code 8 = .ok (.aload_n 0, 1) := by decide +kernel
theorem d8_9 : decode jdk_42_method_149_code 9 = .ok (.ldc 7, 2) := by decide +kernel
theorem d8_11 : decode jdk_42_method_149_code 11 = .ok (.getfield 9, 3) := by decide +kernel
theorem d8_14 : decode jdk_42_method_149_code 14 = .ok (.putfield 9, 3) := by decide +kernel
theorem d8_17 : decode jdk_42_method_149_code 17 = .ok (.aload_n 0, 1) := by decide +kernel
theorem d8_18 : decode jdk_42_method_149_code 18 = .ok (.ldc 7, 2) := by decide +kernel
theorem d8_20 : decode jdk_42_method_149_code 20 = .ok (.getfield 15, 3) := by decide +kernel
theorem d8_23 : decode jdk_42_method_149_code 23 = .ok (.putfield 15, 3) := by decide +kernel
theorem d8_26 : decode jdk_42_method_149_code 26 = .ok (.return_, 1) := by decide +kernel
theorem ef_8z (m : MethodId) (a1 : Addr) (a2 : Addr) : entryFrame m #[(.ref a1), (.ref a2), (.int (0 : Int32)), (.int (0 : Int32)), .null] 6 = mkF m 0 #[.val (.ref a1), .val (.ref a2), .val (.int (0 : Int32)), .val (.int (0 : Int32)), .val .null, .unset] [] := by first | (simp [entryFrame, mkF, argsToLocals, Value.category]; done) | rfl
def Q8z (Z : State) (a1 : Addr) (a2 : Addr) (C : Nat → Int32) (h0 : Heap) (n0 : Nat) (v : Option Value) (h : Heap) (L : List Loc) : Prop := v = none ∧ Fr n0 L ∧ Keep h0 h [a1] ∧ StrF Z h a1 0 C
set_option maxRecDepth 65536 in
set_option maxHeartbeats 40000000 in
theorem rm8z (l : Launch) (Z : State) (a0 : Array Value) (hw : ∀ d ∈ tables_1, d.before a0 Z = true) (ws : List Jvm.Cond) (a1 : Addr) (a2 : Addr) (C : Nat → Int32) (h0 : Heap) (n0 : Nat) (Z0 : n0 ≤ h0.size) (OLD : Old Z n0 h0) (hEL : EW Z a0 EL) (FE : Exa Z h0 a1 "java/lang/String") (FV : Fld Z h0 a1 "java/lang/String" "value" "[B" .null) (FC : Fld Z h0 a1 "java/lang/String" "coder" "B" (.int (0 : Int32))) (g_a1 : n0 ≤ a1) :
    MetFree l (⟨"java/lang/String", "<init>", "([CIILjava/lang/Void;)V"⟩ : MethodName) (head1 (Jvm.Cond.code (⟨"java/lang/String", "<init>", "([CIILjava/lang/Void;)V"⟩ : MethodName) jdk_42_method_149_code 6 none :: ws) ({ frames := 1, cells := 4, slots := 8, locals := 12 } : Room)) (fun a U => a = #[(.ref a1), (.ref a2), (.int (0 : Int32)), (.int (0 : Int32)), .null] ∧ Z.Warmed39 U.vm ∧ U.heap = h0 ∧ CHv Z EL U.vm h0) (fun _ _ _ _ _ => True) (fun _ U oo U' => ∃ v L, oo = .returned v ∧ Q8z Z a1 a2 C h0 n0 v U'.heap L ∧ CHr Z EL U.vm U.heap U'.vm U'.heap ∧ ReturnedEndW U oo U' L ({ frames := 1, cells := 4, slots := 8, locals := 12 } : Room).cells ({ frames := 1, cells := 4, slots := 8, locals := 12 } : Room).slots) := by
  refine MetFree.of_bodySF (plainFor_of_name pn_8) hisR ?_
  intro p e s m args below meth c s₁ Bd hml0 hP hK
  obtain ⟨rfl, hZ, hh, hCH⟩ := hP
  have hx := Bd.exec
  have hby := Bd.bytes
  have hml : c.maxLocals = 6 := hml0
  have hown : s.vm.findClass "java/lang/String" = some m.cls := findClass_of_methodNamed Bd.named
  have hnm := (name_of_methodNamed Bd.named Bd.method).1
  have X0 : Stand p l e ({ frames := 1, cells := 4, slots := 8, locals := 12 } : Room) s m #[(.ref a1), (.ref a2), (.int (0 : Int32)), (.int (0 : Int32)), .null] below meth c s₁ [] 0 0 := Stand.of_body Bd
  have e0 : s₁.heap = h0 := by rw [← hh, Bd.state]; rfl
  have N0 := Fr.nil n0
  have K0 : Keep h0 h0 [a1] := Keep.refl _ _
  have pre0 : ∀ tg, Steps p.tables e below (s₁.setTop (mkF m 0 #[.val (.ref a1), .val (.ref a2), .val (.int (0 : Int32)), .val (.int (0 : Int32)), .val .null, .unset] [])) tg → Steps p.tables e below (s₁.setTop (entryFrame m #[(.ref a1), (.ref a2), (.int (0 : Int32)), (.int (0 : Int32)), .null] 6)) tg := fun tg k => castTop (ef_8z m a1 a2) k
  have st1 : ∀ tg, Steps p.tables e below (s₁.setTop (mkF m 1 #[.val (.ref a1), .val (.ref a2), .val (.int (0 : Int32)), .val (.int (0 : Int32)), .val .null, .unset] [(.ref a1)])) tg → Steps p.tables e below (s₁.setTop (mkF m 0 #[.val (.ref a1), .val (.ref a2), .val (.int (0 : Int32)), .val (.int (0 : Int32)), .val .null, .unset] [])) tg := by
    intro tg kt
    refine XS.aloadN X0.here hx rfl (hb hby d8_0) rfl rfl ?_
    exact kt
  obtain ⟨T2, X2, e2, st2⟩ := initO X0 hx hZ hown (hw _ (List.mem_of_getElem? (i := 48) rfl)) (hw _ (List.mem_of_getElem? (i := 49) rfl)) (hw _ (List.mem_of_getElem? (i := 50) rfl)) e0 (g := (mkF m 1 #[.val (.ref a1), .val (.ref a2), .val (.int (0 : Int32)), .val (.int (0 : Int32)), .val .null, .unset] [(.ref a1)])) rfl (by rw [hml]; rfl) rfl (hb hby d8_1) (by decide) (W := 0) (by show 2 * 0 + _ ≤ _; exact Nat.le_of_eq rfl) (by decide)
  have SF0 : Safe Z EL s.vm h0 a1 := own_safe hZ.alike FV FE
  have st3 : ∀ tg, Steps p.tables e below (T2.setTop (mkF m 9 #[.val (.ref a1), .val (.ref a2), .val (.int (0 : Int32)), .val (.int (0 : Int32)), .val .null, .unset] [(.ref a1)])) tg → Steps p.tables e below (T2.setTop (mkF m 4 #[.val (.ref a1), .val (.ref a2), .val (.int (0 : Int32)), .val (.int (0 : Int32)), .val .null, .unset] [])) tg := by
    intro tg kt
    refine XS.iloadN X2.here hx rfl (hb hby d8_4) rfl ?_
    refine XS.ifNo X2.here hx rfl (hb hby d8_5) rfl (XT.i0_ne_f (by decide)) ?_
    refine XS.aloadN X2.here hx rfl (hb hby d8_8) rfl rfl ?_
    exact kt
  obtain ⟨b4, T4, h4, k4, t4, kk4, X4, e4, E4, hS4, hk4, hZ4, hown4, GE4, GC4, GV4, GA4, lb4, lt4, CR4, -, hne4, st4⟩ := ldcCH (s := s) (vm0 := s.vm) (show Stand p l e _ (s.setVm s.vm) m _ below meth c T2 _ _ _ from X2) hx hZ hown (hw _ (List.mem_of_getElem? (i := 51) rfl)) (own_wS hw) e2 ((State.WarmedH.refl s).since 0) (Nat.zero_le _) hEL (by decide +kernel) hCH (vs := []) (z := (0 : Int32)) ⟨by decide +kernel, by first | rfl | decide +kernel⟩ (by decide) (by decide) (g := (mkF m 9 #[.val (.ref a1), .val (.ref a2), .val (.int (0 : Int32)), .val (.int (0 : Int32)), .val .null, .unset] [(.ref a1)])) rfl (hb hby d8_9) (n := 0) (by decide +kernel) (by decide) (by decide) (by decide)
  have G5 : Old Z n0 h4 := OLD.ext E4
  have G6 : Exa Z h4 a1 "java/lang/String" := FE.ext E4
  have G7 : Fld Z h4 a1 "java/lang/String" "value" "[B" .null := FV.ext E4
  have G8 : Fld Z h4 a1 "java/lang/String" "coder" "B" (.int (0 : Int32)) := FC.ext E4
  have K4 : Keep h0 h4 [a1] := K0.ext E4
  have Z4 : n0 ≤ h4.size := Nat.le_trans Z0 E4.1
  have SF4 := CHr.safe CR4 FE.lt SF0
  have neS4 := hne4 _ SF4
  obtain ⟨T9, X9, e9, st9⟩ := getF X4 hx hZ4 hown4 (host := "") (Or.inl (hw _ (List.mem_of_getElem? (i := 27) rfl))) Via.refl e4 GV4 (g := (mkF m 11 #[.val (.ref a1), .val (.ref a2), .val (.int (0 : Int32)), .val (.int (0 : Int32)), .val .null, .unset] [(.ref b4), (.ref a1)])) rfl rfl (hb hby d8_11)
  obtain ⟨T10, h10, X10, e10, W10, st10⟩ := putF X9 hx hZ4 hown4 (host := "") (Or.inl (hw _ (List.mem_of_getElem? (i := 27) rfl))) Via.refl e9 G7 G6 (Or.inr ⟨(hw _ (List.mem_of_getElem? (i := 11) rfl)), rfl, hnm⟩) (hw _ (List.mem_of_getElem? (i := 9) rfl)) (ty := (.array .byte)) (by decide) rfl rfl (g := (mkF m 14 #[.val (.ref a1), .val (.ref a2), .val (.int (0 : Int32)), .val (.int (0 : Int32)), .val .null, .unset] [(.ref t4), (.ref a1)])) rfl rfl (hb hby d8_14)
  have N10 := Fr.snoc X10 N0 g_a1
  have K10 : Keep h0 h10 [a1] := K4.wr W10 (Or.inl (List.mem_of_getElem? (i := 0) rfl))
  have Z10 : n0 ≤ h10.size := Nat.le_trans Z4 (Keep.of_wr W10).1
  have hks10 := Nat.le_trans hk4 (Keep.of_wr W10).1
  have CH10 := CHr.wr W10 SF4 CR4.1
  have SF10 := Safe.wr W10 SF4 CR4.1 SF4
  have G11 : Old Z n0 h10 := G5.wr W10 g_a1
  have G12 : Exa Z h10 a1 "java/lang/String" := G6.wr W10
  have G13 : Fld Z h10 a1 "java/lang/String" "coder" "B" (.int (0 : Int32)) := G8.other W10 (Or.inr (slot_ne (Or.inr (hw _ (List.mem_of_getElem? (i := 12) rfl))) (Or.inr (hw _ (List.mem_of_getElem? (i := 11) rfl))) (by decide) (t := .byte) (t' := (.array .byte)) (by decide) (by decide)))
  have G14 : Exa Z h10 b4 "java/lang/String" := GE4.wr W10
  have G15 : Fld Z h10 b4 "java/lang/String" "coder" "B" (.int (0 : Int32)) := GC4.other W10 (Or.inl (Ne.symm neS4.1))
  have G16 : Fld Z h10 b4 "java/lang/String" "value" "[B" (.ref t4) := GV4.other W10 (Or.inl (Ne.symm neS4.1))
  have G17 : Arv Z h10 t4 kk4 .byte (0 : Int32) [] (.int 0) := GA4.other W10 (Ne.symm neS4.2)
  have G18 : Fld Z h10 a1 "java/lang/String" "value" "[B" (.ref t4) := G7.same W10
  have st19 : ∀ tg, Steps p.tables e below (T10.setTop (mkF m 18 #[.val (.ref a1), .val (.ref a2), .val (.int (0 : Int32)), .val (.int (0 : Int32)), .val .null, .unset] [(.ref a1)])) tg → Steps p.tables e below (T10.setTop (mkF m 17 #[.val (.ref a1), .val (.ref a2), .val (.int (0 : Int32)), .val (.int (0 : Int32)), .val .null, .unset] [])) tg := by
    intro tg kt
    refine XS.aloadN X10.here hx rfl (hb hby d8_17) rfl rfl ?_
    exact kt
  obtain ⟨b20, T20, h20, k20, t20, kk20, X20, e20, E20, hS20, hk20, hZ20, hown20, GE20, GC20, GV20, GA20, lb20, lt20, CR20, -, hne20, st20⟩ := ldcCH (s := s) X10 hx hZ4 hown4 (hw _ (List.mem_of_getElem? (i := 51) rfl)) (own_wS hw) e10 hS4 hks10 hEL (by decide +kernel) CH10.1 (vs := []) (z := (0 : Int32)) ⟨by decide +kernel, by first | rfl | decide +kernel⟩ (by decide) (by decide) (g := (mkF m 18 #[.val (.ref a1), .val (.ref a2), .val (.int (0 : Int32)), .val (.int (0 : Int32)), .val .null, .unset] [(.ref a1)])) rfl (hb hby d8_18) (n := 0) (by decide +kernel) (by decide) (by decide) (by decide)
  have G21 : Old Z n0 h20 := G11.ext E20
  have G22 : Exa Z h20 a1 "java/lang/String" := G12.ext E20
  have G23 : Fld Z h20 a1 "java/lang/String" "coder" "B" (.int (0 : Int32)) := G13.ext E20
  have G24 : Exa Z h20 b4 "java/lang/String" := G14.ext E20
  have G25 : Fld Z h20 b4 "java/lang/String" "coder" "B" (.int (0 : Int32)) := G15.ext E20
  have G26 : Fld Z h20 b4 "java/lang/String" "value" "[B" (.ref t4) := G16.ext E20
  have G27 : Arv Z h20 t4 kk4 .byte (0 : Int32) [] (.int 0) := G17.ext E20
  have G28 : Fld Z h20 a1 "java/lang/String" "value" "[B" (.ref t4) := G18.ext E20
  have K20 : Keep h0 h20 [a1] := K10.ext E20
  have Z20 : n0 ≤ h20.size := Nat.le_trans Z10 E20.1
  have SF20 := CHr.safe CR20 G12.lt SF10
  have neS20 := hne20 _ SF20
  obtain ⟨T29, X29, e29, st29⟩ := getF X20 hx hZ20 hown20 (host := "") (Or.inl (hw _ (List.mem_of_getElem? (i := 26) rfl))) Via.refl e20 GC20 (g := (mkF m 20 #[.val (.ref a1), .val (.ref a2), .val (.int (0 : Int32)), .val (.int (0 : Int32)), .val .null, .unset] [(.ref b20), (.ref a1)])) rfl rfl (hb hby d8_20)
  obtain ⟨T30, h30, X30, e30, W30, st30⟩ := putFN X29 hx hZ20 hown20 (hw _ (List.mem_of_getElem? (i := 26) rfl)) Via.refl e29 G23 G22 (Or.inr ⟨(hw _ (List.mem_of_getElem? (i := 12) rfl)), rfl, hnm⟩) (hw _ (List.mem_of_getElem? (i := 9) rfl)) (ty := .byte) (v' := .int (0 : Int32)) (by decide) rfl (by decide) (g := (mkF m 23 #[.val (.ref a1), .val (.ref a2), .val (.int (0 : Int32)), .val (.int (0 : Int32)), .val .null, .unset] [(.int (0 : Int32)), (.ref a1)])) rfl rfl (hb hby d8_23)
  have N30 := Fr.snoc X30 N10 g_a1
  have K30 : Keep h0 h30 [a1] := K20.wr W30 (Or.inl (List.mem_of_getElem? (i := 0) rfl))
  have Z30 : n0 ≤ h30.size := Nat.le_trans Z20 (Keep.of_wr W30).1
  have hks30 := Nat.le_trans hk20 (Keep.of_wr W30).1
  have CH30 := CHr.wr W30 SF20 CR20.1
  have SF30 := Safe.wr W30 SF20 CR20.1 SF20
  have G31 : Old Z n0 h30 := G21.wr W30 g_a1
  have G32 : Exa Z h30 a1 "java/lang/String" := G22.wr W30
  have G33 : Exa Z h30 b4 "java/lang/String" := G24.wr W30
  have G34 : Fld Z h30 b4 "java/lang/String" "coder" "B" (.int (0 : Int32)) := G25.other W30 (Or.inl (Ne.symm neS4.1))
  have G35 : Fld Z h30 b4 "java/lang/String" "value" "[B" (.ref t4) := G26.other W30 (Or.inl (Ne.symm neS4.1))
  have G36 : Arv Z h30 t4 kk4 .byte (0 : Int32) [] (.int 0) := G27.other W30 (Ne.symm neS4.2)
  have G37 : Fld Z h30 a1 "java/lang/String" "value" "[B" (.ref t4) := G28.other W30 (Or.inr (slot_ne (Or.inr (hw _ (List.mem_of_getElem? (i := 11) rfl))) (Or.inr (hw _ (List.mem_of_getElem? (i := 12) rfl))) (by decide) (t := (.array .byte)) (t' := .byte) (by decide) (by decide)))
  have G38 : Exa Z h30 b20 "java/lang/String" := GE20.wr W30
  have G39 : Fld Z h30 b20 "java/lang/String" "coder" "B" (.int (0 : Int32)) := GC20.other W30 (Or.inl (Ne.symm neS20.1))
  have G40 : Fld Z h30 b20 "java/lang/String" "value" "[B" (.ref t20) := GV20.other W30 (Or.inl (Ne.symm neS20.1))
  have G41 : Arv Z h30 t20 kk20 .byte (0 : Int32) [] (.int 0) := GA20.other W30 (Ne.symm neS20.2)
  have G42 : Fld Z h30 a1 "java/lang/String" "coder" "B" (.int (0 : Int32)) := G23.same W30
  obtain ⟨fs, hr, hrun, hended, hRW⟩ := Stand.leaveW (s := s) X30 hS20 (by rw [e30]; exact hks30) (v := none) (fun _ => rfl)
  refine ⟨_, _, pre0 _ ?_, hrun, hended, _, _, rfl, ?_, (by rw [hh, show (T30.setFrames fs).heap = h30 from e30]; exact (show CHr Z EL s.vm h0 T30.vm h30 from (((CR4.trans CH10).trans CR20).trans CH30).trans (CHv.at (s := s) (vm0 := T20.vm) (T := T30) X30 hZ20 hEL CH30.1))), hRW.1, hRW.2.1, hRW.2.2.1, hRW.2.2.2.mono (by decide) (by decide)⟩
  · refine st1 _ ?_
    show Steps p.tables e below (s₁.setTop (mkF m 1 #[.val (.ref a1), .val (.ref a2), .val (.int (0 : Int32)), .val (.int (0 : Int32)), .val .null, .unset] [(.ref a1)])) _
    refine st2 _ ?_
    refine st3 _ ?_
    show Steps p.tables e below (T2.setTop (mkF m 9 #[.val (.ref a1), .val (.ref a2), .val (.int (0 : Int32)), .val (.int (0 : Int32)), .val .null, .unset] [(.ref a1)])) _
    refine st4 _ ?_
    show Steps p.tables e below (T4.setTop (mkF m 11 #[.val (.ref a1), .val (.ref a2), .val (.int (0 : Int32)), .val (.int (0 : Int32)), .val .null, .unset] [(.ref b4), (.ref a1)])) _
    refine st9 _ ?_
    show Steps p.tables e below (T9.setTop (mkF m 14 #[.val (.ref a1), .val (.ref a2), .val (.int (0 : Int32)), .val (.int (0 : Int32)), .val .null, .unset] [(.ref t4), (.ref a1)])) _
    refine st10 _ ?_
    refine st19 _ ?_
    show Steps p.tables e below (T10.setTop (mkF m 18 #[.val (.ref a1), .val (.ref a2), .val (.int (0 : Int32)), .val (.int (0 : Int32)), .val .null, .unset] [(.ref a1)])) _
    refine st20 _ ?_
    show Steps p.tables e below (T20.setTop (mkF m 20 #[.val (.ref a1), .val (.ref a2), .val (.int (0 : Int32)), .val (.int (0 : Int32)), .val .null, .unset] [(.ref b20), (.ref a1)])) _
    refine st29 _ ?_
    show Steps p.tables e below (T29.setTop (mkF m 23 #[.val (.ref a1), .val (.ref a2), .val (.int (0 : Int32)), .val (.int (0 : Int32)), .val .null, .unset] [(.int (0 : Int32)), (.ref a1)])) _
    refine st30 _ ?_
    show Steps p.tables e below (T30.setTop (mkF m 26 #[.val (.ref a1), .val (.ref a2), .val (.int (0 : Int32)), .val (.int (0 : Int32)), .val .null, .unset] [])) _
    exact X30.returnOut hx Bd.returns (hb hby d8_26) hr
  · show Q8z Z a1 a2 C h0 n0 _ T30.heap _
    rw [e30]
    exact ⟨rfl, N30, K30, t4, (fun _ => (0 : Int32)), fun i hi => absurd hi (Nat.not_lt_zero _), Or.inl ⟨G32, G37, G42, ArF.of_arv G36 (by decide) (fun i hi => absurd hi (Nat.not_lt_zero _)), fun i hi => absurd hi (Nat.not_lt_zero _)⟩⟩
theorem ef_7z (m : MethodId) (a1 : Addr) (a2 : Addr) : entryFrame m #[(.ref a1), (.ref a2)] 2 = mkF m 0 #[.val (.ref a1), .val (.ref a2)] [] := by first | (simp [entryFrame, mkF, argsToLocals, Value.category]; done) | rfl
def Q7z (Z : State) (a1 : Addr) (a2 : Addr) (C : Nat → Int32) (kc : ClassId) (dv : Value) (h0 : Heap) (n0 : Nat) (v : Option Value) (h : Heap) (L : List Loc) : Prop := v = none ∧ Fr n0 L ∧ Keep h0 h [a1] ∧ StrF Z h a1 0 C
set_option maxRecDepth 65536 in
set_option maxHeartbeats 40000000 in
theorem rm7z (l : Launch) (Z : State) (a0 : Array Value) (hw : ∀ d ∈ tables_1, d.before a0 Z = true) (ws : List Jvm.Cond) (a1 : Addr) (a2 : Addr) (C : Nat → Int32) (kc : ClassId) (dv : Value) (h0 : Heap) (n0 : Nat) (Z0 : n0 ≤ h0.size) (OLD : Old Z n0 h0) (hEL : EW Z a0 EL) (FE : Exa Z h0 a1 "java/lang/String") (FV : Fld Z h0 a1 "java/lang/String" "value" "[B" .null) (FC : Fld Z h0 a1 "java/lang/String" "coder" "B" (.int (0 : Int32))) (g_a1 : n0 ≤ a1) (FA : Arv Z h0 a2 kc .char (0 : Int32) [] dv) :
    MetFree l (⟨"java/lang/String", "<init>", "([C)V"⟩ : MethodName) (head1 (Jvm.Cond.code (⟨"java/lang/String", "<init>", "([C)V"⟩ : MethodName) jdk_42_method_3_code 2 none :: ws) ({ frames := 2, cells := 4, slots := 8, locals := 29 } : Room)) (fun a U => a = #[(.ref a1), (.ref a2)] ∧ Z.Warmed39 U.vm ∧ U.heap = h0 ∧ CHv Z EL U.vm h0) (fun _ _ _ _ _ => True) (fun _ U oo U' => ∃ v L, oo = .returned v ∧ Q7z Z a1 a2 C kc dv h0 n0 v U'.heap L ∧ CHr Z EL U.vm U.heap U'.vm U'.heap ∧ ReturnedEndW U oo U' L ({ frames := 2, cells := 4, slots := 8, locals := 29 } : Room).cells ({ frames := 2, cells := 4, slots := 8, locals := 29 } : Room).slots) := by
  refine MetFree.of_bodySF (plainFor_of_name pn_7) hisR ?_
  intro p e s m args below meth c s₁ Bd hml0 hP hK
  obtain ⟨rfl, hZ, hh, hCH⟩ := hP
  have hx := Bd.exec
  have hby := Bd.bytes
  have hml : c.maxLocals = 2 := hml0
  have hown : s.vm.findClass "java/lang/String" = some m.cls := findClass_of_methodNamed Bd.named
  have hnm := (name_of_methodNamed Bd.named Bd.method).1
  have X0 : Stand p l e ({ frames := 2, cells := 4, slots := 8, locals := 29 } : Room) s m #[(.ref a1), (.ref a2)] below meth c s₁ [] 0 0 := Stand.of_body Bd
  have e0 : s₁.heap = h0 := by rw [← hh, Bd.state]; rfl
  have N0 := Fr.nil n0
  have K0 : Keep h0 h0 [a1] := Keep.refl _ _
  have pre0 : ∀ tg, Steps p.tables e below (s₁.setTop (mkF m 0 #[.val (.ref a1), .val (.ref a2)] [])) tg → Steps p.tables e below (s₁.setTop (entryFrame m #[(.ref a1), (.ref a2)] 2)) tg := fun tg k => castTop (ef_7z m a1 a2) k
  have st2 : ∀ tg, Steps p.tables e below (s₁.setTop (mkF m 4 #[.val (.ref a1), .val (.ref a2)] [(.ref a2), (.int (0 : Int32)), (.ref a2), (.ref a1)])) tg → Steps p.tables e below (s₁.setTop (mkF m 0 #[.val (.ref a1), .val (.ref a2)] [])) tg := by
    intro tg kt
    refine XS.aloadN X0.here hx rfl (hb hby d7_0) rfl rfl ?_
    refine XS.aloadN X0.here hx rfl (hb hby d7_1) rfl rfl ?_
    refine XS.iconst X0.here hx rfl (hb hby d7_2) ?_
    refine XS.aloadN X0.here hx rfl (hb hby d7_3) rfl rfl ?_
    exact kt
  obtain ⟨cl1, Ar1, qa1, Sa1, Na1, Ha1, Ga1⟩ := id FA
  have st3 : ∀ tg, Steps p.tables e below (s₁.setTop (mkF m 6 #[.val (.ref a1), .val (.ref a2)] [.null, (.int (0 : Int32)), (.int (0 : Int32)), (.ref a2), (.ref a1)])) tg → Steps p.tables e below (s₁.setTop (mkF m 4 #[.val (.ref a1), .val (.ref a2)] [(.ref a2), (.int (0 : Int32)), (.ref a2), (.ref a1)])) tg := by
    intro tg kt
    refine X0.arraylength hx (by rw [e0]; exact Ar1.1) (State.isArrayOf_alike hZ.alike Ar1.2.1) (g := (mkF m 4 #[.val (.ref a1), .val (.ref a2)] [(.ref a2), (.int (0 : Int32)), (.ref a2), (.ref a1)])) rfl rfl (hb hby d7_4) _ ?_
    rw [len_of Sa1 Na1]
    refine XS.aconstNull X0.here hx rfl (hb hby d7_5) ?_
    exact kt
  obtain ⟨_, _, ⟨T4, L4, k4, n4⟩, -, X4w, hS4w, hg4, ⟨Lc4, hQ4, l4, y4, z4, CR4⟩, st4⟩ := Stand.specialBackS (s := s.setVm s.vm) (show Stand p l e _ (s.setVm s.vm) m _ below meth c s₁ _ _ _ from X0) hx (y := (⟨"java/lang/String", "<init>", "([CIILjava/lang/Void;)V"⟩ : MethodName)) rfl hown (mvT hZ (hw _ (List.mem_of_getElem? (i := 44) rfl))) (mvT hZ (hw _ (List.mem_of_getElem? (i := 45) rfl))) (mvT hZ (hw _ (List.mem_of_getElem? (i := 47) rfl))) (by decide) (backOfSH (s := s) (vm0 := s.vm) (W := 0) (rm8z l Z a0 hw [] a1 a2 C h0 n0 Z0 OLD hEL FE FV FC g_a1) hZ (hw _ (List.mem_of_getElem? (i := 47) rfl)) (hw _ (List.mem_of_getElem? (i := 8) rfl)) (by decide) (by decide) hEL hCH) (g := (mkF m 6 #[.val (.ref a1), .val (.ref a2)] [.null, (.int (0 : Int32)), (.int (0 : Int32)), (.ref a2), (.ref a1)])) rfl (by rw [hml]; rfl) (Steps.refl _) (a := a1) (argsL := [(.ref a2), (.int (0 : Int32)), (.int (0 : Int32)), .null]) (rest := []) (lenOf pd_23 rfl) rfl (by show 2 * 0 + _ ≤ _; exact Nat.le_of_eq rfl) (hb hby d7_6) (fun _ _ => ⟨rfl, e0, (by decide : 0 + 4 ≤ _), (by decide : 0 + 8 ≤ _)⟩)
  dsimp only [Pt.U, Pt.locs, Pt.cells, Pt.slots] at X4w l4 y4 z4 st4 hQ4 hS4w hg4 CR4
  subst l4 y4 z4
  obtain ⟨X4, hS4, hZ4, hown4⟩ := rebS (s := s) (vm0 := s.vm) ((State.WarmedH.refl s).since 0) (Nat.zero_le _) X4w hS4w hg4 hZ hown
  obtain ⟨rfl, N4q, K4q, S4q⟩ := hQ4
  have N4 := Fr.app N0 N4q
  obtain ⟨fs, hr, hrun, hended, hRW⟩ := Stand.leaveW (s := s) X4 hS4 (Nat.le_refl _) (v := none) (fun _ => rfl)
  refine ⟨_, _, pre0 _ ?_, hrun, hended, _, _, rfl, ?_, (by rw [hh, show (T4.setFrames fs).heap = T4.heap from rfl]; exact (show CHr Z EL s.vm h0 T4.vm T4.heap from CR4.trans (CHv.at (s := s) (vm0 := T4.vm) (T := T4) X4 hZ4 hEL CR4.1))), hRW.1, hRW.2.1, hRW.2.2.1, hRW.2.2.2.mono (by decide) (by decide)⟩
  · refine st2 _ ?_
    refine st3 _ ?_
    show Steps p.tables e below (s₁.setTop (mkF m 6 #[.val (.ref a1), .val (.ref a2)] [.null, (.int (0 : Int32)), (.int (0 : Int32)), (.ref a2), (.ref a1)])) _
    refine st4.trans ?_
    show Steps p.tables e below (T4.setTop (mkF m 9 #[.val (.ref a1), .val (.ref a2)] [])) _
    exact X4.returnOut hx Bd.returns (hb hby d7_9) hr
  · show Q7z Z a1 a2 C kc dv h0 n0 _ T4.heap _
    skip
    exact ⟨rfl, N4, K4q, S4q⟩
theorem d1_0 : decode method_3_code 0 = .ok (.iload_n 0, 1) := by decide +kernel
theorem d1_1 : decode method_3_code 1 = .ok (.iconst 3, 1) := by decide +kernel
theorem d1_2 : decode method_3_code 2 = .ok (.iand, 1) := by decide +kernel
theorem d1_3 : decode method_3_code 3 = .ok (.istore_n 1, 1) := by decide +kernel
theorem d1_4 : decode method_3_code 4 = .ok (.iload_n 0, 1) := by decide +kernel
theorem d1_5 : decode method_3_code 5 = .ok (.iconst 2, 1) := by decide +kernel
theorem d1_6 : decode method_3_code 6 = .ok (.iushr, 1) := by decide +kernel
theorem d1_7 : decode method_3_code 7 = .ok (.istore_n 2, 1) := by decide +kernel
theorem d1_8 : decode method_3_code 8 = .ok (.iload_n 1, 1) := by decide +kernel
theorem d1_9 : decode method_3_code 9 = .ok (.ifCond .ne 6, 3) := by decide +kernel
theorem d1_12 : decode method_3_code 12 = .ok (.bipush 37, 2) := by decide +kernel
theorem d1_14 : decode method_3_code 14 = .ok (.ireturn, 1) := by decide +kernel
theorem d1_15 : decode method_3_code 15 = .ok (.iload_n 1, 1) := by decide +kernel
theorem d1_16 : decode method_3_code 16 = .ok (.iconst 1, 1) := by decide +kernel
theorem d1_17 : decode method_3_code 17 = .ok (.if_icmp .ne 13, 3) := by decide +kernel
theorem d1_20 : decode method_3_code 20 = .ok (.ldc 29, 2) := by decide +kernel
theorem d1_22 : decode method_3_code 22 = .ok (.iload_n 2, 1) := by decide +kernel
theorem d1_23 : decode method_3_code 23 = .ok (.bipush 22, 2) := by decide +kernel
theorem d1_25 : decode method_3_code 25 = .ok (.irem, 1) := by decide +kernel
theorem d1_26 : decode method_3_code 26 = .ok (.invokevirtual 31, 3) := by decide +kernel
theorem d1_29 : decode method_3_code 29 = .ok (.ireturn, 1) := by decide +kernel
theorem d1_30 : decode method_3_code 30 = .ok (.iload_n 1, 1) := by decide +kernel
theorem d1_31 : decode method_3_code 31 = .ok (.iconst 2, 1) := by decide +kernel
theorem d1_32 : decode method_3_code 32 = .ok (.if_icmp .ne 10, 3) := by decide +kernel
theorem d1_35 : decode method_3_code 35 = .ok (.iload_n 2, 1) := by decide +kernel
theorem d1_36 : decode method_3_code 36 = .ok (.sipush 255, 3) := by decide +kernel
theorem d1_39 : decode method_3_code 39 = .ok (.iand, 1) := by decide +kernel
theorem d1_40 : decode method_3_code 40 = .ok (.i2c, 1) := by decide +kernel
theorem d1_41 : decode method_3_code 41 = .ok (.ireturn, 1) := by decide +kernel
theorem d1_42 : decode method_3_code 42 = .ok (.iload_n 2, 1) := by decide +kernel
theorem d1_43 : decode method_3_code 43 = .ok (.ldc 34, 2) := by decide +kernel
theorem d1_45 : decode method_3_code 45 = .ok (.iand, 1) := by decide +kernel
theorem d1_46 : decode method_3_code 46 = .ok (.i2c, 1) := by decide +kernel
theorem d1_47 : decode method_3_code 47 = .ok (.ireturn, 1) := by decide +kernel
theorem pn_1 : plainName "com/example/grantline/grantline/PercentEncodingHasBadEscapePinLaw" = true := by first | (simp [plainName, overriddenIn]; done) | decide +kernel
theorem ef_1 (m : MethodId) (p1 : Int32) : entryFrame m #[(.int p1)] 3 = mkF m 0 #[.val (.int p1), .unset, .unset] [] := by first | (simp [entryFrame, mkF, argsToLocals, Value.category]; done) | rfl
def Q1 (Z : State) (p1 : Int32) (wc : Int32) (fm : Value) (h0 : Heap) (n0 : Nat) (v : Option Value) (h : Heap) (L : List Loc) : Prop := ∃ z : Int32, v = some (.int z) ∧ Fr n0 L ∧ Keep h0 h [] ∧ IsCh z
set_option maxRecDepth 65536 in
set_option maxHeartbeats 40000000 in
theorem rm1 (l : Launch) (Z : State) (a0 : Array Value) (hw : ∀ d ∈ tables_1, d.before a0 Z = true) (ws : List Jvm.Cond) (p1 : Int32) (wc : Int32) (fm : Value) (h0 : Heap) (n0 : Nat) (Z0 : n0 ≤ h0.size) (OLD : Old Z n0 h0) (S_c : Sta Z Z.heap "java/lang/String" "COMPACT_STRINGS" "Z" (.int wc)) (hwc : ¬ wc = 0) (hfm : fm.isRef = true) (S_f : Sta Z Z.heap "jdk/internal/util/Preconditions" "SIOOBE_FORMATTER" "Ljava/util/function/BiFunction;" fm) (S_a : Sta Z Z.heap "java/lang/StringUTF16" "$assertionsDisabled" "Z" (.int (1 : Int32))) (S_h : Sta Z Z.heap "java/lang/StringUTF16" "HI_BYTE_SHIFT" "I" (.int (0 : Int32))) (S_l : Sta Z Z.heap "java/lang/StringUTF16" "LO_BYTE_SHIFT" "I" (.int (8 : Int32))) (hEL : EW Z a0 EL) :
    MetFree l (⟨"com/example/grantline/grantline/PercentEncodingHasBadEscapePinLaw", "pick", "(I)C"⟩ : MethodName) (head1 (Jvm.Cond.code (⟨"com/example/grantline/grantline/PercentEncodingHasBadEscapePinLaw", "pick", "(I)C"⟩ : MethodName) method_3_code 3 (some .char) :: ws) ({ frames := 5, cells := 2, slots := 92, locals := 83 } : Room)) (fun a U => a = #[(.int p1)] ∧ Z.Warmed39 U.vm ∧ U.heap = h0 ∧ CHv Z EL U.vm h0) (fun _ _ _ _ _ => True) (fun _ U oo U' => ∃ v L, oo = .returned v ∧ Q1 Z p1 wc fm h0 n0 v U'.heap L ∧ CHr Z EL U.vm U.heap U'.vm U'.heap ∧ ReturnedEndW U oo U' L ({ frames := 5, cells := 2, slots := 92, locals := 83 } : Room).cells ({ frames := 5, cells := 2, slots := 92, locals := 83 } : Room).slots) := by
  refine MetFree.of_bodySF (plainFor_of_name pn_1) hisR ?_
  intro p e s m args below meth c s₁ Bd hml0 hP hK
  obtain ⟨rfl, hZ, hh, hCH⟩ := hP
  have hx := Bd.exec
  have hby := Bd.bytes
  have hml : c.maxLocals = 3 := hml0
  have hown : s.vm.findClass "com/example/grantline/grantline/PercentEncodingHasBadEscapePinLaw" = some m.cls := findClass_of_methodNamed Bd.named
  have hnm := (name_of_methodNamed Bd.named Bd.method).1
  have X0 : Stand p l e ({ frames := 5, cells := 2, slots := 92, locals := 83 } : Room) s m #[(.int p1)] below meth c s₁ [] 0 0 := Stand.of_body Bd
  have e0 : s₁.heap = h0 := by rw [← hh, Bd.state]; rfl
  have N0 := Fr.nil n0
  have K0 : Keep h0 h0 [] := Keep.refl _ _
  have pre0 : ∀ tg, Steps p.tables e below (s₁.setTop (mkF m 0 #[.val (.int p1), .unset, .unset] [])) tg → Steps p.tables e below (s₁.setTop (entryFrame m #[(.int p1)] 3)) tg := fun tg k => castTop (ef_1 m p1) k
  have st2 : ∀ tg, Steps p.tables e below (s₁.setTop (mkF m 9 #[.val (.int p1), .val (.int (p1 &&& (3 : Int32))), .val (.int ((p1.toUInt32 >>> ((2 : Int32) &&& 31).toUInt32).toInt32))] [(.int (p1 &&& (3 : Int32)))])) tg → Steps p.tables e below (s₁.setTop (mkF m 0 #[.val (.int p1), .unset, .unset] [])) tg := by
    intro tg kt
    refine XS.iloadN X0.here hx rfl (hb hby d1_0) rfl ?_
    refine XS.iconst X0.here hx rfl (hb hby d1_1) ?_
    refine XS.iand X0.here hx rfl (hb hby d1_2) rfl ?_
    refine XS.istoreN X0.here hx rfl (hb hby d1_3) rfl (l' := #[.val (.int p1), .val (.int (p1 &&& (3 : Int32))), .unset]) rfl ?_
    show Steps p.tables e below (s₁.setTop (mkF m 4 #[.val (.int p1), .val (.int (p1 &&& (3 : Int32))), .unset] [])) tg
    refine XS.iloadN X0.here hx rfl (hb hby d1_4) rfl ?_
    refine XS.iconst X0.here hx rfl (hb hby d1_5) ?_
    refine XS.iushr X0.here hx rfl (hb hby d1_6) rfl ?_
    refine XS.istoreN X0.here hx rfl (hb hby d1_7) rfl (l' := #[.val (.int p1), .val (.int (p1 &&& (3 : Int32))), .val (.int ((p1.toUInt32 >>> ((2 : Int32) &&& 31).toUInt32).toInt32))]) rfl ?_
    show Steps p.tables e below (s₁.setTop (mkF m 8 #[.val (.int p1), .val (.int (p1 &&& (3 : Int32))), .val (.int ((p1.toUInt32 >>> ((2 : Int32) &&& 31).toUInt32).toInt32))] [])) tg
    refine XS.iloadN X0.here hx rfl (hb hby d1_8) rfl ?_
    exact kt
  by_cases hc9_1 : (p1 &&& (3 : Int32)) = 0
  · -- pc 9: (p1 &&& (3 : Int32)) = 0
    have st3 : ∀ tg, Steps p.tables e below (s₁.setTop (mkF m 14 #[.val (.int p1), .val (.int (p1 &&& (3 : Int32))), .val (.int ((p1.toUInt32 >>> ((2 : Int32) &&& 31).toUInt32).toInt32))] [(.int (37 : Int32))])) tg → Steps p.tables e below (s₁.setTop (mkF m 9 #[.val (.int p1), .val (.int (p1 &&& (3 : Int32))), .val (.int ((p1.toUInt32 >>> ((2 : Int32) &&& 31).toUInt32).toInt32))] [(.int (p1 &&& (3 : Int32)))])) tg := by
      intro tg kt
      refine XS.ifNo X0.here hx rfl (hb hby d1_9) rfl (XT.i0_ne_f hc9_1) ?_
      refine XS.bipush X0.here hx rfl (hb hby d1_12) ?_
      exact kt
    obtain ⟨fs, hr, hrun, hended, hW, hsame⟩ := X0.leave (v := some (.int (nar .char (37 : Int32)))) (fun h => by rw [Bd.returns] at h; cases h)
    have hRW := ReturnedEndW.of_narrow (o := .returned (some (.int (nar .char (37 : Int32))))) ⟨_, rfl⟩ hW hsame
    refine ⟨_, _, pre0 _ ?_, hrun, hended, _, _, rfl, ?_, (by rw [hh, show (s₁.setFrames fs).heap = h0 from e0]; exact (show CHr Z EL s.vm h0 s₁.vm h0 from CHv.at (s := s) (vm0 := s.vm) (T := s₁) (show Stand p l e _ (s.setVm s.vm) m _ below meth c s₁ _ _ _ from X0) hZ hEL hCH)), hRW.1, hRW.2.1, hRW.2.2.1, hRW.2.2.2.mono (by decide) (by decide)⟩
    · refine st2 _ ?_
      refine st3 _ ?_
      show Steps p.tables e below (s₁.setTop (mkF m 14 #[.val (.int p1), .val (.int (p1 &&& (3 : Int32))), .val (.int ((p1.toUInt32 >>> ((2 : Int32) &&& 31).toUInt32).toInt32))] [(.int (37 : Int32))])) _
      exact retN X0 hx (t := .char) Bd.returns (by simp) (hb hby d1_14) hr
    · show Q1 Z p1 wc fm h0 n0 _ s₁.heap _
      rw [e0]
      exact ⟨_, rfl, N0, K0, own_isch_nar _⟩
  · -- pc 9: not (p1 &&& (3 : Int32)) = 0
    have st5 : ∀ tg, Steps p.tables e below (s₁.setTop (mkF m 17 #[.val (.int p1), .val (.int (p1 &&& (3 : Int32))), .val (.int ((p1.toUInt32 >>> ((2 : Int32) &&& 31).toUInt32).toInt32))] [(.int (1 : Int32)), (.int (p1 &&& (3 : Int32)))])) tg → Steps p.tables e below (s₁.setTop (mkF m 9 #[.val (.int p1), .val (.int (p1 &&& (3 : Int32))), .val (.int ((p1.toUInt32 >>> ((2 : Int32) &&& 31).toUInt32).toInt32))] [(.int (p1 &&& (3 : Int32)))])) tg := by
      intro tg kt
      refine XS.ifYes X0.here hx rfl (pc0 := 9) (pc' := 15) rfl (hb hby d1_9) rfl (XT.i0_ne_t hc9_1) (by decide) (by decide) ?_
      refine XS.iloadN X0.here hx rfl (hb hby d1_15) rfl ?_
      refine XS.iconst X0.here hx rfl (hb hby d1_16) ?_
      exact kt
    by_cases hc17_4 : (p1 &&& (3 : Int32)) = (1 : Int32)
    · -- pc 17: (p1 &&& (3 : Int32)) = (1 : Int32)
      have st6 : ∀ tg, Steps p.tables e below (s₁.setTop (mkF m 20 #[.val (.int p1), .val (.int (p1 &&& (3 : Int32))), .val (.int ((p1.toUInt32 >>> ((2 : Int32) &&& 31).toUInt32).toInt32))] [])) tg → Steps p.tables e below (s₁.setTop (mkF m 17 #[.val (.int p1), .val (.int (p1 &&& (3 : Int32))), .val (.int ((p1.toUInt32 >>> ((2 : Int32) &&& 31).toUInt32).toInt32))] [(.int (1 : Int32)), (.int (p1 &&& (3 : Int32)))])) tg := by
        intro tg kt
        refine XS.icmpNo X0.here hx rfl (hb hby d1_17) rfl (XT.ii_ne_f hc17_4) ?_
        exact kt
      obtain ⟨b7, T7, h7, k7, t7, kk7, X7, e7, E7, hS7, hk7, hZ7, hown7, GE7, GC7, GV7, GA7, lb7, lt7, CR7, -, hne7, st7⟩ := ldcCH (s := s) (vm0 := s.vm) (show Stand p l e _ (s.setVm s.vm) m _ below meth c s₁ _ _ _ from X0) hx hZ hown (hw _ (List.mem_of_getElem? (i := 7) rfl)) (own_wS hw) e0 ((State.WarmedH.refl s).since 0) (Nat.zero_le _) hEL (by decide +kernel) hCH (vs := [(.int (48 : Int32)), (.int (49 : Int32)), (.int (50 : Int32)), (.int (51 : Int32)), (.int (52 : Int32)), (.int (53 : Int32)), (.int (54 : Int32)), (.int (55 : Int32)), (.int (56 : Int32)), (.int (57 : Int32)), (.int (97 : Int32)), (.int (98 : Int32)), (.int (99 : Int32)), (.int (100 : Int32)), (.int (101 : Int32)), (.int (102 : Int32)), (.int (65 : Int32)), (.int (66 : Int32)), (.int (67 : Int32)), (.int (68 : Int32)), (.int (69 : Int32)), (.int (70 : Int32))]) (z := (22 : Int32)) ⟨by decide +kernel, by first | rfl | decide +kernel⟩ (by decide) (by decide) (g := (mkF m 20 #[.val (.int p1), .val (.int (p1 &&& (3 : Int32))), .val (.int ((p1.toUInt32 >>> ((2 : Int32) &&& 31).toUInt32).toInt32))] [])) rfl (hb hby d1_20) (n := 88) (by decide +kernel) (by decide) (by decide) (by decide)
      have G8 : Old Z n0 h7 := OLD.ext E7
      have K7 : Keep h0 h7 [] := K0.ext E7
      have Z7 : n0 ≤ h7.size := Nat.le_trans Z0 E7.1
      have st9 : ∀ tg, Steps p.tables e below (T7.setTop (mkF m 26 #[.val (.int p1), .val (.int (p1 &&& (3 : Int32))), .val (.int ((p1.toUInt32 >>> ((2 : Int32) &&& 31).toUInt32).toInt32))] [(.int (((p1.toUInt32 >>> ((2 : Int32) &&& 31).toUInt32).toInt32) % (22 : Int32))), (.ref b7)])) tg → Steps p.tables e below (T7.setTop (mkF m 22 #[.val (.int p1), .val (.int (p1 &&& (3 : Int32))), .val (.int ((p1.toUInt32 >>> ((2 : Int32) &&& 31).toUInt32).toInt32))] [(.ref b7)])) tg := by
        intro tg kt
        refine XS.iloadN X7.here hx rfl (hb hby d1_22) rfl ?_
        refine XS.bipush X7.here hx rfl (hb hby d1_23) ?_
        refine iremM X7 hx rfl (hb hby d1_25) rfl (by decide) ?_
        exact kt
      obtain ⟨j, hj, hj2⟩ := own_m22 p1
      have HS : StrF Z h7 b7 22 own_cc := ⟨t7, own_cc, own_cc_ch, Or.inl ⟨GE7, GV7, GC7, ArF.of_arv GA7 (by decide) (fun i hi => own_cc_at i), own_cc_lo⟩⟩
      have eq10 : (((p1.toUInt32 >>> ((2 : Int32) &&& 31).toUInt32).toInt32) % (22 : Int32)) = (Int32.ofNat j) := hj
      rw [eq10] at st9
      obtain ⟨cq11, kq11, q11a, q11b, q11c⟩ := isOf hZ7 e7 GE7
      obtain ⟨_, _, ⟨T11, L11, k11, n11⟩, -, X11, ⟨Lc11, hQ11, l11, y11, z11⟩, st11⟩ := X7.virtualBack hx (y := (⟨"java/lang/String", "charAt", "(I)C"⟩ : MethodName)) (z := (⟨"java/lang/String", "charAt", "(I)C"⟩ : MethodName)) hown7 (mvT hZ7 (hw _ (List.mem_of_getElem? (i := 15) rfl))) (mvT hZ7 (hw _ (List.mem_of_getElem? (i := 16) rfl))) (notFace_of_selects (args := #[]) (mvT hZ7 (hw _ (List.mem_of_getElem? (i := 18) rfl)))) (mvT hZ7 (hw _ (List.mem_of_getElem? (i := 18) rfl))) (mvT hZ7 (hw _ (List.mem_of_getElem? (i := 17) rfl))) (by decide) (backOf (W := 0) (rm2c l Z a0 hw [] b7 22 own_cc j wc fm h7 n0 Z7 G8 S_c hwc hfm S_f S_a S_h S_l (by decide) hj2 HS) hZ7 (hw _ (List.mem_of_getElem? (i := 19) rfl)) (hw _ (List.mem_of_getElem? (i := 8) rfl)) (by decide) (by decide)) q11a q11c (g := (mkF m 26 #[.val (.int p1), .val (.int (p1 &&& (3 : Int32))), .val (.int ((p1.toUInt32 >>> ((2 : Int32) &&& 31).toUInt32).toInt32))] [(.int (Int32.ofNat j)), (.ref b7)])) rfl (by rw [hml]; rfl) (Steps.refl _) (argsL := [(.int (Int32.ofNat j))]) (rest := []) (lenOf pd_14 rfl) rfl (by show 2 * 0 + _ ≤ _; exact Nat.le_of_eq rfl) (hb hby d1_26) (fun _ _ => ⟨rfl, e7, (by decide : 2 + 0 ≤ _), (by decide : 92 + 0 ≤ _)⟩)
      dsimp only [Pt.U, Pt.locs, Pt.cells, Pt.slots] at X11 l11 y11 z11 st11 hQ11
      subst l11 y11 z11
      obtain ⟨rfl, N11q, e11⟩ := hQ11
      have N11 := Fr.app N0 N11q
      obtain ⟨fs, hr, hrun, hended, hRW⟩ := Stand.leaveW (s := s) X11 hS7 (by rw [e11]; exact hk7) (v := some (.int (nar .char (own_cc j)))) (fun h => by rw [Bd.returns] at h; cases h)
      refine ⟨_, _, pre0 _ ?_, hrun, hended, _, _, rfl, ?_, (by rw [hh, show (T11.setFrames fs).heap = h7 from e11]; exact (show CHr Z EL s.vm h0 T11.vm h7 from CR7.trans (CHv.at (s := s) (vm0 := T7.vm) (T := T11) X11 hZ7 hEL CR7.1))), hRW.1, hRW.2.1, hRW.2.2.1, hRW.2.2.2.mono (by decide) (by decide)⟩
      · refine st2 _ ?_
        refine st5 _ ?_
        refine st6 _ ?_
        show Steps p.tables e below (s₁.setTop (mkF m 20 #[.val (.int p1), .val (.int (p1 &&& (3 : Int32))), .val (.int ((p1.toUInt32 >>> ((2 : Int32) &&& 31).toUInt32).toInt32))] [])) _
        refine st7 _ ?_
        refine st9 _ ?_
        show Steps p.tables e below (T7.setTop (mkF m 26 #[.val (.int p1), .val (.int (p1 &&& (3 : Int32))), .val (.int ((p1.toUInt32 >>> ((2 : Int32) &&& 31).toUInt32).toInt32))] [(.int (Int32.ofNat j)), (.ref b7)])) _
        refine st11.trans ?_
        show Steps p.tables e below (T11.setTop (mkF m 29 #[.val (.int p1), .val (.int (p1 &&& (3 : Int32))), .val (.int ((p1.toUInt32 >>> ((2 : Int32) &&& 31).toUInt32).toInt32))] [(.int (own_cc j))])) _
        exact retN X11 hx (t := .char) Bd.returns (by simp) (hb hby d1_29) hr
      · show Q1 Z p1 wc fm h0 n0 _ T11.heap _
        rw [e11]
        exact ⟨_, rfl, N11, K7, own_isch_nar _⟩
    · -- pc 17: not (p1 &&& (3 : Int32)) = (1 : Int32)
      have st13 : ∀ tg, Steps p.tables e below (s₁.setTop (mkF m 32 #[.val (.int p1), .val (.int (p1 &&& (3 : Int32))), .val (.int ((p1.toUInt32 >>> ((2 : Int32) &&& 31).toUInt32).toInt32))] [(.int (2 : Int32)), (.int (p1 &&& (3 : Int32)))])) tg → Steps p.tables e below (s₁.setTop (mkF m 17 #[.val (.int p1), .val (.int (p1 &&& (3 : Int32))), .val (.int ((p1.toUInt32 >>> ((2 : Int32) &&& 31).toUInt32).toInt32))] [(.int (1 : Int32)), (.int (p1 &&& (3 : Int32)))])) tg := by
        intro tg kt
        refine XS.icmpYes X0.here hx rfl (pc0 := 17) (pc' := 30) rfl (hb hby d1_17) rfl (XT.ii_ne_t hc17_4) (by decide) (by decide) ?_
        refine XS.iloadN X0.here hx rfl (hb hby d1_30) rfl ?_
        refine XS.iconst X0.here hx rfl (hb hby d1_31) ?_
        exact kt
      by_cases hc32_12 : (p1 &&& (3 : Int32)) = (2 : Int32)
      · -- pc 32: (p1 &&& (3 : Int32)) = (2 : Int32)
        have st14 : ∀ tg, Steps p.tables e below (s₁.setTop (mkF m 41 #[.val (.int p1), .val (.int (p1 &&& (3 : Int32))), .val (.int ((p1.toUInt32 >>> ((2 : Int32) &&& 31).toUInt32).toInt32))] [(.int ((((p1.toUInt32 >>> ((2 : Int32) &&& 31).toUInt32).toInt32) &&& (255 : Int32)).toUInt32.toUInt16.toUInt32.toInt32))])) tg → Steps p.tables e below (s₁.setTop (mkF m 32 #[.val (.int p1), .val (.int (p1 &&& (3 : Int32))), .val (.int ((p1.toUInt32 >>> ((2 : Int32) &&& 31).toUInt32).toInt32))] [(.int (2 : Int32)), (.int (p1 &&& (3 : Int32)))])) tg := by
          intro tg kt
          refine XS.icmpNo X0.here hx rfl (hb hby d1_32) rfl (XT.ii_ne_f hc32_12) ?_
          refine XS.iloadN X0.here hx rfl (hb hby d1_35) rfl ?_
          refine XS.sipush X0.here hx rfl (hb hby d1_36) ?_
          refine XS.iand X0.here hx rfl (hb hby d1_39) rfl ?_
          show Steps p.tables e below (s₁.setTop (mkF m 40 #[.val (.int p1), .val (.int (p1 &&& (3 : Int32))), .val (.int ((p1.toUInt32 >>> ((2 : Int32) &&& 31).toUInt32).toInt32))] [(.int (((p1.toUInt32 >>> ((2 : Int32) &&& 31).toUInt32).toInt32) &&& (255 : Int32)))])) tg
          refine XS.i2c X0.here hx rfl (hb hby d1_40) rfl ?_
          exact kt
        obtain ⟨fs, hr, hrun, hended, hW, hsame⟩ := X0.leave (v := some (.int (nar .char ((((p1.toUInt32 >>> ((2 : Int32) &&& 31).toUInt32).toInt32) &&& (255 : Int32)).toUInt32.toUInt16.toUInt32.toInt32)))) (fun h => by rw [Bd.returns] at h; cases h)
        have hRW := ReturnedEndW.of_narrow (o := .returned (some (.int (nar .char ((((p1.toUInt32 >>> ((2 : Int32) &&& 31).toUInt32).toInt32) &&& (255 : Int32)).toUInt32.toUInt16.toUInt32.toInt32))))) ⟨_, rfl⟩ hW hsame
        refine ⟨_, _, pre0 _ ?_, hrun, hended, _, _, rfl, ?_, (by rw [hh, show (s₁.setFrames fs).heap = h0 from e0]; exact (show CHr Z EL s.vm h0 s₁.vm h0 from CHv.at (s := s) (vm0 := s.vm) (T := s₁) (show Stand p l e _ (s.setVm s.vm) m _ below meth c s₁ _ _ _ from X0) hZ hEL hCH)), hRW.1, hRW.2.1, hRW.2.2.1, hRW.2.2.2.mono (by decide) (by decide)⟩
        · refine st2 _ ?_
          refine st5 _ ?_
          refine st13 _ ?_
          refine st14 _ ?_
          show Steps p.tables e below (s₁.setTop (mkF m 41 #[.val (.int p1), .val (.int (p1 &&& (3 : Int32))), .val (.int ((p1.toUInt32 >>> ((2 : Int32) &&& 31).toUInt32).toInt32))] [(.int ((((p1.toUInt32 >>> ((2 : Int32) &&& 31).toUInt32).toInt32) &&& (255 : Int32)).toUInt32.toUInt16.toUInt32.toInt32))])) _
          exact retN X0 hx (t := .char) Bd.returns (by simp) (hb hby d1_41) hr
        · show Q1 Z p1 wc fm h0 n0 _ s₁.heap _
          rw [e0]
          exact ⟨_, rfl, N0, K0, own_isch_nar _⟩
      · -- pc 32: not (p1 &&& (3 : Int32)) = (2 : Int32)
        have st15 : ∀ tg, Steps p.tables e below (s₁.setTop (mkF m 47 #[.val (.int p1), .val (.int (p1 &&& (3 : Int32))), .val (.int ((p1.toUInt32 >>> ((2 : Int32) &&& 31).toUInt32).toInt32))] [(.int ((((p1.toUInt32 >>> ((2 : Int32) &&& 31).toUInt32).toInt32) &&& (65535 : Int32)).toUInt32.toUInt16.toUInt32.toInt32))])) tg → Steps p.tables e below (s₁.setTop (mkF m 32 #[.val (.int p1), .val (.int (p1 &&& (3 : Int32))), .val (.int ((p1.toUInt32 >>> ((2 : Int32) &&& 31).toUInt32).toInt32))] [(.int (2 : Int32)), (.int (p1 &&& (3 : Int32)))])) tg := by
          intro tg kt
          refine XS.icmpYes X0.here hx rfl (pc0 := 32) (pc' := 42) rfl (hb hby d1_32) rfl (XT.ii_ne_t hc32_12) (by decide) (by decide) ?_
          refine XS.iloadN X0.here hx rfl (hb hby d1_42) rfl ?_
          refine X0.ldcInt hx hown (mvT hZ (hw _ (List.mem_of_getElem? (i := 6) rfl))) (g := (mkF m 43 #[.val (.int p1), .val (.int (p1 &&& (3 : Int32))), .val (.int ((p1.toUInt32 >>> ((2 : Int32) &&& 31).toUInt32).toInt32))] [(.int ((p1.toUInt32 >>> ((2 : Int32) &&& 31).toUInt32).toInt32))])) rfl (hb hby d1_43) _ ?_
          refine XS.iand X0.here hx rfl (hb hby d1_45) rfl ?_
          show Steps p.tables e below (s₁.setTop (mkF m 46 #[.val (.int p1), .val (.int (p1 &&& (3 : Int32))), .val (.int ((p1.toUInt32 >>> ((2 : Int32) &&& 31).toUInt32).toInt32))] [(.int (((p1.toUInt32 >>> ((2 : Int32) &&& 31).toUInt32).toInt32) &&& (65535 : Int32)))])) tg
          refine XS.i2c X0.here hx rfl (hb hby d1_46) rfl ?_
          exact kt
        obtain ⟨fs, hr, hrun, hended, hW, hsame⟩ := X0.leave (v := some (.int (nar .char ((((p1.toUInt32 >>> ((2 : Int32) &&& 31).toUInt32).toInt32) &&& (65535 : Int32)).toUInt32.toUInt16.toUInt32.toInt32)))) (fun h => by rw [Bd.returns] at h; cases h)
        have hRW := ReturnedEndW.of_narrow (o := .returned (some (.int (nar .char ((((p1.toUInt32 >>> ((2 : Int32) &&& 31).toUInt32).toInt32) &&& (65535 : Int32)).toUInt32.toUInt16.toUInt32.toInt32))))) ⟨_, rfl⟩ hW hsame
        refine ⟨_, _, pre0 _ ?_, hrun, hended, _, _, rfl, ?_, (by rw [hh, show (s₁.setFrames fs).heap = h0 from e0]; exact (show CHr Z EL s.vm h0 s₁.vm h0 from CHv.at (s := s) (vm0 := s.vm) (T := s₁) (show Stand p l e _ (s.setVm s.vm) m _ below meth c s₁ _ _ _ from X0) hZ hEL hCH)), hRW.1, hRW.2.1, hRW.2.2.1, hRW.2.2.2.mono (by decide) (by decide)⟩
        · refine st2 _ ?_
          refine st5 _ ?_
          refine st13 _ ?_
          refine st15 _ ?_
          show Steps p.tables e below (s₁.setTop (mkF m 47 #[.val (.int p1), .val (.int (p1 &&& (3 : Int32))), .val (.int ((p1.toUInt32 >>> ((2 : Int32) &&& 31).toUInt32).toInt32))] [(.int ((((p1.toUInt32 >>> ((2 : Int32) &&& 31).toUInt32).toInt32) &&& (65535 : Int32)).toUInt32.toUInt16.toUInt32.toInt32))])) _
          exact retN X0 hx (t := .char) Bd.returns (by simp) (hb hby d1_47) hr
        · show Q1 Z p1 wc fm h0 n0 _ s₁.heap _
          rw [e0]
          exact ⟨_, rfl, N0, K0, own_isch_nar _⟩
theorem own_nz {args : Array Value} {s : State} {t : Term} {x : Int32} (ev : t.eval args s none [] s = some (.int x)) (h : (Cond.not (.eq t (.int 0))).value args s none s [] = some true) : ¬ (x = 0) := by
  intro q
  have := not_v h
  simp [Cond.value, ev, Term.int_eval, q] at this
theorem pn_0 : plainName "com/example/grantline/grantline/PercentEncodingHasBadEscapePinLaw" = true := by first | (simp [plainName, overriddenIn]; done) | decide +kernel
theorem ef_0 (m : MethodId) (p1 : Int32) (p2 : Int32) (p3 : Int32) (p4 : Int32) (p5 : Int32) (p6 : Int32) : entryFrame m #[(.int p1), (.int p2), (.int p3), (.int p4), (.int p5), (.int p6)] maxLocals = mkF m 0 #[.val (.int p1), .val (.int p2), .val (.int p3), .val (.int p4), .val (.int p5), .val (.int p6), .unset, .unset, .unset, .unset] [] := by first | (simp [entryFrame, mkF, argsToLocals, Value.category, maxLocals]; done) | rfl
def Q0 (Z : State) (p1 : Int32) (p2 : Int32) (p3 : Int32) (p4 : Int32) (p5 : Int32) (p6 : Int32) (wc : Int32) (fm : Value) (h0 : Heap) (n0 : Nat) (v : Option Value) (h : Heap) (L : List Loc) : Prop := v = some (.int (1 : Int32)) ∧ Fr n0 L
set_option maxRecDepth 65536 in
set_option maxHeartbeats 40000000 in
theorem rm0 (l : Launch) (Z : State) (a0 : Array Value) (hw : ∀ d ∈ tables_1, d.before a0 Z = true) (ws : List Jvm.Cond) (p1 : Int32) (p2 : Int32) (p3 : Int32) (p4 : Int32) (p5 : Int32) (p6 : Int32) (wc : Int32) (fm : Value) (h0 : Heap) (n0 : Nat) (Z0 : n0 ≤ h0.size) (OLD : Old Z n0 h0) (S_c : Sta Z Z.heap "java/lang/String" "COMPACT_STRINGS" "Z" (.int wc)) (hwc : ¬ wc = 0) (hfm : fm.isRef = true) (S_f : Sta Z Z.heap "jdk/internal/util/Preconditions" "SIOOBE_FORMATTER" "Ljava/util/function/BiFunction;" fm) (S_a : Sta Z Z.heap "java/lang/StringUTF16" "$assertionsDisabled" "Z" (.int (1 : Int32))) (S_h : Sta Z Z.heap "java/lang/StringUTF16" "HI_BYTE_SHIFT" "I" (.int (0 : Int32))) (S_l : Sta Z Z.heap "java/lang/StringUTF16" "LO_BYTE_SHIFT" "I" (.int (8 : Int32))) (hEL : EW Z a0 EL) :
    MetFree l x (head1 (Jvm.Cond.code x code maxLocals ret :: ws) room_1) (fun a U => a = #[(.int p1), (.int p2), (.int p3), (.int p4), (.int p5), (.int p6)] ∧ Z.Warmed39 U.vm ∧ U.heap = h0 ∧ CHv Z EL U.vm h0) (fun _ _ _ _ _ => True) (fun _ U oo U' => ∃ v L, oo = .returned v ∧ Q0 Z p1 p2 p3 p4 p5 p6 wc fm h0 n0 v U'.heap L ∧ ReturnedEndW U oo U' L room_1.cells room_1.slots) := by
  refine MetFree.of_bodySF (plainFor_of_name pn_0) hisR ?_
  intro p e s m args below meth c s₁ Bd hml0 hP hK
  obtain ⟨rfl, hZ, hh, hCH⟩ := hP
  have hx := Bd.exec
  have hby := Bd.bytes
  have hml : c.maxLocals = 10 := hml0
  have hown : s.vm.findClass "com/example/grantline/grantline/PercentEncodingHasBadEscapePinLaw" = some m.cls := findClass_of_methodNamed Bd.named
  have hnm := (name_of_methodNamed Bd.named Bd.method).1
  have X0 : Stand p l e room_1 s m #[(.int p1), (.int p2), (.int p3), (.int p4), (.int p5), (.int p6)] below meth c s₁ [] 0 0 := Stand.of_body Bd
  have e0 : s₁.heap = h0 := by rw [← hh, Bd.state]; rfl
  have N0 := Fr.nil n0
  have K0 : Keep h0 h0 [] := Keep.refl _ _
  have pre0 : ∀ tg, Steps p.tables e below (s₁.setTop (mkF m 0 #[.val (.int p1), .val (.int p2), .val (.int p3), .val (.int p4), .val (.int p5), .val (.int p6), .unset, .unset, .unset, .unset] [])) tg → Steps p.tables e below (s₁.setTop (entryFrame m #[(.int p1), (.int p2), (.int p3), (.int p4), (.int p5), (.int p6)] maxLocals)) tg := fun tg k => castTop (ef_0 m p1 p2 p3 p4 p5 p6) k
  refine Classical.byContradiction fun hG => ?_
  have st1 : ∀ tg, Steps p.tables e below (s₁.setTop (mkF m 7 #[.val (.int p1), .val (.int p2), .val (.int p3), .val (.int p4), .val (.int p5), .val (.int p6), .unset, .unset, .unset, .unset] [(.int ((p1 &&& (2147483647 : Int32)) % (6 : Int32)))])) tg → Steps p.tables e below (s₁.setTop (mkF m 0 #[.val (.int p1), .val (.int p2), .val (.int p3), .val (.int p4), .val (.int p5), .val (.int p6), .unset, .unset, .unset, .unset] [])) tg := by
    intro tg kt
    refine XS.iloadN X0.here hx rfl (hb hby at_0) rfl ?_
    refine X0.ldcInt hx hown (mvT hZ (hw _ (List.mem_of_getElem? (i := 0) rfl))) (g := (mkF m 1 #[.val (.int p1), .val (.int p2), .val (.int p3), .val (.int p4), .val (.int p5), .val (.int p6), .unset, .unset, .unset, .unset] [(.int p1)])) rfl (hb hby at_1) _ ?_
    refine XS.iand X0.here hx rfl (hb hby at_3) rfl ?_
    refine XS.bipush X0.here hx rfl (hb hby at_4) ?_
    show Steps p.tables e below (s₁.setTop (mkF m 6 #[.val (.int p1), .val (.int p2), .val (.int p3), .val (.int p4), .val (.int p5), .val (.int p6), .unset, .unset, .unset, .unset] [(.int (6 : Int32)), (.int (p1 &&& (2147483647 : Int32)))])) tg
    refine iremM X0 hx rfl (hb hby at_6) rfl (by decide) ?_
    exact kt
  obtain ⟨kn, hkn⟩ : ∃ z, z = ((p1 &&& (2147483647 : Int32)) % (6 : Int32)) := ⟨_, rfl⟩
  rw [← hkn] at st1
  have st2 : ∀ tg, Steps p.tables e below (s₁.setTop (mkF m 10 #[.val (.int p1), .val (.int p2), .val (.int p3), .val (.int p4), .val (.int p5), .val (.int p6), .val (.int kn), .unset, .unset, .unset] [(.int (5 : Int32))])) tg → Steps p.tables e below (s₁.setTop (mkF m 7 #[.val (.int p1), .val (.int p2), .val (.int p3), .val (.int p4), .val (.int p5), .val (.int p6), .unset, .unset, .unset, .unset] [(.int kn)])) tg := by
    intro tg kt
    refine XS.istore X0.here hx rfl (hb hby at_7) rfl (l' := #[.val (.int p1), .val (.int p2), .val (.int p3), .val (.int p4), .val (.int p5), .val (.int p6), .val (.int kn), .unset, .unset, .unset]) rfl ?_
    refine XS.iconst X0.here hx rfl (hb hby at_9) ?_
    exact kt
  obtain ⟨T3, h3, k3, X3, e3, E3, A3, st3⟩ := newP X0 hx hZ (hw _ (List.mem_of_getElem? (i := 1) rfl)) e0 (g := (mkF m 10 #[.val (.int p1), .val (.int p2), .val (.int p3), .val (.int p4), .val (.int p5), .val (.int p6), .val (.int kn), .unset, .unset, .unset] [(.int (5 : Int32))])) rfl (hb hby at_10) rfl (by decide) (cap := 5) (by decide) (by decide) (by decide) (by decide)
  obtain ⟨b3, gz3⟩ : ∃ z, z = h0.size := ⟨_, rfl⟩
  rw [← gz3] at A3 st3
  have g_b3 : n0 ≤ b3 := Nat.le_trans Z0 (Nat.le_of_eq gz3.symm)
  have sz_b3 : h0.size ≤ b3 := Nat.le_trans K0.1 (Nat.le_of_eq gz3.symm)
  have G4 : Old Z n0 h3 := OLD.ext E3
  have K3 : Keep h0 h3 [] := K0.ext E3
  have Z3 : n0 ≤ h3.size := Nat.le_trans Z0 E3.1
  have CH3 := CHr.ext E3 hCH
  have G5 : Arv Z h3 b3 k3 .char (5 : Int32) [(.int (0 : Int32)), (.int (0 : Int32)), (.int (0 : Int32)), (.int (0 : Int32)), (.int (0 : Int32))] (.int (0 : Int32)) := (Arv.new A3 (by decide)).pad (pad_rep [] (.int (0 : Int32)) 5)
  have st6 : ∀ tg, Steps p.tables e below (T3.setTop (mkF m 18 #[.val (.int p1), .val (.int p2), .val (.int p3), .val (.int p4), .val (.int p5), .val (.int p6), .val (.int kn), .val (.ref b3), .unset, .unset] [(.int p2), (.int (0 : Int32)), (.ref b3)])) tg → Steps p.tables e below (T3.setTop (mkF m 12 #[.val (.int p1), .val (.int p2), .val (.int p3), .val (.int p4), .val (.int p5), .val (.int p6), .val (.int kn), .unset, .unset, .unset] [(.ref b3)])) tg := by
    intro tg kt
    refine XS.astore X3.here hx rfl (hb hby at_12) rfl rfl (l' := #[.val (.int p1), .val (.int p2), .val (.int p3), .val (.int p4), .val (.int p5), .val (.int p6), .val (.int kn), .val (.ref b3), .unset, .unset]) rfl ?_
    refine XS.aload X3.here hx rfl (hb hby at_14) rfl rfl ?_
    refine XS.iconst X3.here hx rfl (hb hby at_16) ?_
    refine XS.iloadN X3.here hx rfl (hb hby at_17) rfl ?_
    exact kt
  obtain ⟨_, _, ⟨T7, L7, k7, n7⟩, -, X7w, hS7w, hg7, ⟨Lc7, hQ7, l7, y7, z7, CR7⟩, st7⟩ := callSS (s := s.setVm s.vm) (show Stand p l e _ (s.setVm s.vm) m _ below meth c T3 _ _ _ from X3) hx (y := (⟨"com/example/grantline/grantline/PercentEncodingHasBadEscapePinLaw", "pick", "(I)C"⟩ : MethodName)) hown (mvT hZ (hw _ (List.mem_of_getElem? (i := 2) rfl))) (mvT hZ (hw _ (List.mem_of_getElem? (i := 3) rfl))) (mvT hZ (hw _ (List.mem_of_getElem? (i := 4) rfl))) (mvT hZ (hw _ (List.mem_of_getElem? (i := 5) rfl))) (by decide) (backOfSH (s := s) (vm0 := s.vm) (W := 2) (rm1 l Z a0 hw [] p2 wc fm h3 n0 Z3 G4 S_c hwc hfm S_f S_a S_h S_l hEL) hZ (hw _ (List.mem_of_getElem? (i := 5) rfl)) (hw _ (List.mem_of_getElem? (i := 4) rfl)) (by decide) (by decide) hEL CH3.1) (g := (mkF m 18 #[.val (.int p1), .val (.int p2), .val (.int p3), .val (.int p4), .val (.int p5), .val (.int p6), .val (.int kn), .val (.ref b3), .unset, .unset] [(.int p2), (.int (0 : Int32)), (.ref b3)])) rfl (by rw [hml]; rfl) (argsL := [(.int p2)]) (rest := [(.int (0 : Int32)), (.ref b3)]) (lenOf pd_14 rfl) rfl (by show 2 * 0 + _ ≤ _; exact Nat.le_of_eq rfl) (hb hby at_18) (fun _ _ => ⟨rfl, e3, (by decide : 1 + 2 ≤ _), (by decide : 5 + 92 ≤ _)⟩)
  dsimp only [Pt.U, Pt.locs, Pt.cells, Pt.slots] at X7w l7 y7 z7 st7 hQ7 hS7w hg7 CR7
  subst l7 y7 z7
  obtain ⟨X7, hS7, hZ7, hown7⟩ := rebS (s := s) (vm0 := s.vm) ((State.WarmedH.refl s).since 0) (Nat.zero_le _) X7w hS7w hg7 hZ hown
  obtain ⟨z7, rfl, N7q, K7q, hz7⟩ := hQ7
  have N7 := Fr.app N0 N7q
  have G8 : Old Z n0 T7.heap := G4.keep K7q (all0)
  have G9 : Arv Z T7.heap b3 k3 .char (5 : Int32) [(.int (0 : Int32)), (.int (0 : Int32)), (.int (0 : Int32)), (.int (0 : Int32)), (.int (0 : Int32))] (.int (0 : Int32)) := G5.keep K7q (nin0)
  have K7 : Keep h0 T7.heap [] := K3.trans K7q all0
  have Z7 : n0 ≤ T7.heap.size := Nat.le_trans Z3 K7q.1
  obtain ⟨cl10, Ar10, qa10, Sa10, Na10, Ha10, Ga10⟩ := id G9
  have hin10 : ¬ ((0 : Int32) < 0 ∨ cl10.slots.size ≤ ((0 : Int32)).toNatClampNeg) := inb_of Sa10 ⟨by decide, by decide⟩
  obtain ⟨T11, h11, X11, e11, W11, st11⟩ := stC X7 hx hZ7 rfl Ar10 (j := (0 : Int32)) hin10 (g := (mkF m 21 #[.val (.int p1), .val (.int p2), .val (.int p3), .val (.int p4), .val (.int p5), .val (.int p6), .val (.int kn), .val (.ref b3), .unset, .unset] [(.int z7), (.int (0 : Int32)), (.ref b3)])) rfl rfl (hb hby at_21)
  have N11 := Fr.snoc X11 N7 g_b3
  have K11 : Keep h0 h11 [] := K7.wr W11 (Or.inr sz_b3)
  have Z11 : n0 ≤ h11.size := Nat.le_trans Z7 (Keep.of_wr W11).1
  have hks11 := Nat.le_trans (Nat.le_refl _) (Keep.of_wr W11).1
  have CH11 := CHr.wr W11 (Safe.arr hZ7.alike Ar10 (by decide)) CR7.1
  have G12 : Old Z n0 h11 := G8.wr W11 g_b3
  have G13 : Arv Z h11 b3 k3 .char (5 : Int32) [(.int (nar .char z7)), (.int (0 : Int32)), (.int (0 : Int32)), (.int (0 : Int32)), (.int (0 : Int32))] (.int (0 : Int32)) := Arv.set Ar10 qa10 Sa10 Na10 Ha10 Ga10 (fits_nar_char _) W11 0 rfl (Nat.le_of_ble_eq_true rfl)
  have st14 : ∀ tg, Steps p.tables e below (T11.setTop (mkF m 26 #[.val (.int p1), .val (.int p2), .val (.int p3), .val (.int p4), .val (.int p5), .val (.int p6), .val (.int kn), .val (.ref b3), .unset, .unset] [(.int p3), (.int (1 : Int32)), (.ref b3)])) tg → Steps p.tables e below (T11.setTop (mkF m 22 #[.val (.int p1), .val (.int p2), .val (.int p3), .val (.int p4), .val (.int p5), .val (.int p6), .val (.int kn), .val (.ref b3), .unset, .unset] [])) tg := by
    intro tg kt
    refine XS.aload X11.here hx rfl (hb hby at_22) rfl rfl ?_
    refine XS.iconst X11.here hx rfl (hb hby at_24) ?_
    refine XS.iloadN X11.here hx rfl (hb hby at_25) rfl ?_
    exact kt
  obtain ⟨_, _, ⟨T15, L15, k15, n15⟩, -, X15w, hS15w, hg15, ⟨Lc15, hQ15, l15, y15, z15, CR15⟩, st15⟩ := callSS (s := s.setVm T7.vm) X11 hx (y := (⟨"com/example/grantline/grantline/PercentEncodingHasBadEscapePinLaw", "pick", "(I)C"⟩ : MethodName)) hown7 (mvT hZ7 (hw _ (List.mem_of_getElem? (i := 2) rfl))) (mvT hZ7 (hw _ (List.mem_of_getElem? (i := 3) rfl))) (mvT hZ7 (hw _ (List.mem_of_getElem? (i := 4) rfl))) (mvT hZ7 (hw _ (List.mem_of_getElem? (i := 5) rfl))) (by decide) (backOfSH (s := s) (W := 2) (rm1 l Z a0 hw [] p3 wc fm h11 n0 Z11 G12 S_c hwc hfm S_f S_a S_h S_l hEL) hZ7 (hw _ (List.mem_of_getElem? (i := 5) rfl)) (hw _ (List.mem_of_getElem? (i := 4) rfl)) (by decide) (by decide) hEL CH11.1) (g := (mkF m 26 #[.val (.int p1), .val (.int p2), .val (.int p3), .val (.int p4), .val (.int p5), .val (.int p6), .val (.int kn), .val (.ref b3), .unset, .unset] [(.int p3), (.int (1 : Int32)), (.ref b3)])) rfl (by rw [hml]; rfl) (argsL := [(.int p3)]) (rest := [(.int (1 : Int32)), (.ref b3)]) (lenOf pd_14 rfl) rfl (by show 2 * 0 + _ ≤ _; exact Nat.le_of_eq rfl) (hb hby at_26) (fun _ _ => ⟨rfl, e11, (by decide : 3 + 2 ≤ _), (by decide : 97 + 92 ≤ _)⟩)
  dsimp only [Pt.U, Pt.locs, Pt.cells, Pt.slots] at X15w l15 y15 z15 st15 hQ15 hS15w hg15 CR15
  subst l15 y15 z15
  obtain ⟨X15, hS15, hZ15, hown15⟩ := rebS (s := s) hS7 hks11 X15w hS15w (Nat.le_trans (Nat.le_of_eq (congrArg Array.size e11.symm)) hg15) hZ7 hown7
  obtain ⟨z15, rfl, N15q, K15q, hz15⟩ := hQ15
  have N15 := Fr.app N11 N15q
  have G16 : Old Z n0 T15.heap := G12.keep K15q (all0)
  have G17 : Arv Z T15.heap b3 k3 .char (5 : Int32) [(.int (nar .char z7)), (.int (0 : Int32)), (.int (0 : Int32)), (.int (0 : Int32)), (.int (0 : Int32))] (.int (0 : Int32)) := G13.keep K15q (nin0)
  have K15 : Keep h0 T15.heap [] := K11.trans K15q all0
  have Z15 : n0 ≤ T15.heap.size := Nat.le_trans Z11 K15q.1
  obtain ⟨cl18, Ar18, qa18, Sa18, Na18, Ha18, Ga18⟩ := id G17
  have hin18 : ¬ ((1 : Int32) < 0 ∨ cl18.slots.size ≤ ((1 : Int32)).toNatClampNeg) := inb_of Sa18 ⟨by decide, by decide⟩
  obtain ⟨T19, h19, X19, e19, W19, st19⟩ := stC X15 hx hZ15 rfl Ar18 (j := (1 : Int32)) hin18 (g := (mkF m 29 #[.val (.int p1), .val (.int p2), .val (.int p3), .val (.int p4), .val (.int p5), .val (.int p6), .val (.int kn), .val (.ref b3), .unset, .unset] [(.int z15), (.int (1 : Int32)), (.ref b3)])) rfl rfl (hb hby at_29)
  have N19 := Fr.snoc X19 N15 g_b3
  have K19 : Keep h0 h19 [] := K15.wr W19 (Or.inr sz_b3)
  have Z19 : n0 ≤ h19.size := Nat.le_trans Z15 (Keep.of_wr W19).1
  have hks19 := Nat.le_trans (Nat.le_refl _) (Keep.of_wr W19).1
  have CH19 := CHr.wr W19 (Safe.arr hZ15.alike Ar18 (by decide)) CR15.1
  have G20 : Old Z n0 h19 := G16.wr W19 g_b3
  have G21 : Arv Z h19 b3 k3 .char (5 : Int32) [(.int (nar .char z7)), (.int (nar .char z15)), (.int (0 : Int32)), (.int (0 : Int32)), (.int (0 : Int32))] (.int (0 : Int32)) := Arv.set Ar18 qa18 Sa18 Na18 Ha18 Ga18 (fits_nar_char _) W19 1 rfl (Nat.le_of_ble_eq_true rfl)
  have st22 : ∀ tg, Steps p.tables e below (T19.setTop (mkF m 34 #[.val (.int p1), .val (.int p2), .val (.int p3), .val (.int p4), .val (.int p5), .val (.int p6), .val (.int kn), .val (.ref b3), .unset, .unset] [(.int p4), (.int (2 : Int32)), (.ref b3)])) tg → Steps p.tables e below (T19.setTop (mkF m 30 #[.val (.int p1), .val (.int p2), .val (.int p3), .val (.int p4), .val (.int p5), .val (.int p6), .val (.int kn), .val (.ref b3), .unset, .unset] [])) tg := by
    intro tg kt
    refine XS.aload X19.here hx rfl (hb hby at_30) rfl rfl ?_
    refine XS.iconst X19.here hx rfl (hb hby at_32) ?_
    refine XS.iloadN X19.here hx rfl (hb hby at_33) rfl ?_
    exact kt
  obtain ⟨_, _, ⟨T23, L23, k23, n23⟩, -, X23w, hS23w, hg23, ⟨Lc23, hQ23, l23, y23, z23, CR23⟩, st23⟩ := callSS (s := s.setVm T15.vm) X19 hx (y := (⟨"com/example/grantline/grantline/PercentEncodingHasBadEscapePinLaw", "pick", "(I)C"⟩ : MethodName)) hown15 (mvT hZ15 (hw _ (List.mem_of_getElem? (i := 2) rfl))) (mvT hZ15 (hw _ (List.mem_of_getElem? (i := 3) rfl))) (mvT hZ15 (hw _ (List.mem_of_getElem? (i := 4) rfl))) (mvT hZ15 (hw _ (List.mem_of_getElem? (i := 5) rfl))) (by decide) (backOfSH (s := s) (W := 2) (rm1 l Z a0 hw [] p4 wc fm h19 n0 Z19 G20 S_c hwc hfm S_f S_a S_h S_l hEL) hZ15 (hw _ (List.mem_of_getElem? (i := 5) rfl)) (hw _ (List.mem_of_getElem? (i := 4) rfl)) (by decide) (by decide) hEL CH19.1) (g := (mkF m 34 #[.val (.int p1), .val (.int p2), .val (.int p3), .val (.int p4), .val (.int p5), .val (.int p6), .val (.int kn), .val (.ref b3), .unset, .unset] [(.int p4), (.int (2 : Int32)), (.ref b3)])) rfl (by rw [hml]; rfl) (argsL := [(.int p4)]) (rest := [(.int (2 : Int32)), (.ref b3)]) (lenOf pd_14 rfl) rfl (by show 2 * 0 + _ ≤ _; exact Nat.le_of_eq rfl) (hb hby at_34) (fun _ _ => ⟨rfl, e19, (by decide : 5 + 2 ≤ _), (by decide : 189 + 92 ≤ _)⟩)
  dsimp only [Pt.U, Pt.locs, Pt.cells, Pt.slots] at X23w l23 y23 z23 st23 hQ23 hS23w hg23 CR23
  subst l23 y23 z23
  obtain ⟨X23, hS23, hZ23, hown23⟩ := rebS (s := s) hS15 hks19 X23w hS23w (Nat.le_trans (Nat.le_of_eq (congrArg Array.size e19.symm)) hg23) hZ15 hown15
  obtain ⟨z23, rfl, N23q, K23q, hz23⟩ := hQ23
  have N23 := Fr.app N19 N23q
  have G24 : Old Z n0 T23.heap := G20.keep K23q (all0)
  have G25 : Arv Z T23.heap b3 k3 .char (5 : Int32) [(.int (nar .char z7)), (.int (nar .char z15)), (.int (0 : Int32)), (.int (0 : Int32)), (.int (0 : Int32))] (.int (0 : Int32)) := G21.keep K23q (nin0)
  have K23 : Keep h0 T23.heap [] := K19.trans K23q all0
  have Z23 : n0 ≤ T23.heap.size := Nat.le_trans Z19 K23q.1
  obtain ⟨cl26, Ar26, qa26, Sa26, Na26, Ha26, Ga26⟩ := id G25
  have hin26 : ¬ ((2 : Int32) < 0 ∨ cl26.slots.size ≤ ((2 : Int32)).toNatClampNeg) := inb_of Sa26 ⟨by decide, by decide⟩
  obtain ⟨T27, h27, X27, e27, W27, st27⟩ := stC X23 hx hZ23 rfl Ar26 (j := (2 : Int32)) hin26 (g := (mkF m 37 #[.val (.int p1), .val (.int p2), .val (.int p3), .val (.int p4), .val (.int p5), .val (.int p6), .val (.int kn), .val (.ref b3), .unset, .unset] [(.int z23), (.int (2 : Int32)), (.ref b3)])) rfl rfl (hb hby at_37)
  have N27 := Fr.snoc X27 N23 g_b3
  have K27 : Keep h0 h27 [] := K23.wr W27 (Or.inr sz_b3)
  have Z27 : n0 ≤ h27.size := Nat.le_trans Z23 (Keep.of_wr W27).1
  have hks27 := Nat.le_trans (Nat.le_refl _) (Keep.of_wr W27).1
  have CH27 := CHr.wr W27 (Safe.arr hZ23.alike Ar26 (by decide)) CR23.1
  have G28 : Old Z n0 h27 := G24.wr W27 g_b3
  have G29 : Arv Z h27 b3 k3 .char (5 : Int32) [(.int (nar .char z7)), (.int (nar .char z15)), (.int (nar .char z23)), (.int (0 : Int32)), (.int (0 : Int32))] (.int (0 : Int32)) := Arv.set Ar26 qa26 Sa26 Na26 Ha26 Ga26 (fits_nar_char _) W27 2 rfl (Nat.le_of_ble_eq_true rfl)
  have st30 : ∀ tg, Steps p.tables e below (T27.setTop (mkF m 43 #[.val (.int p1), .val (.int p2), .val (.int p3), .val (.int p4), .val (.int p5), .val (.int p6), .val (.int kn), .val (.ref b3), .unset, .unset] [(.int p5), (.int (3 : Int32)), (.ref b3)])) tg → Steps p.tables e below (T27.setTop (mkF m 38 #[.val (.int p1), .val (.int p2), .val (.int p3), .val (.int p4), .val (.int p5), .val (.int p6), .val (.int kn), .val (.ref b3), .unset, .unset] [])) tg := by
    intro tg kt
    refine XS.aload X27.here hx rfl (hb hby at_38) rfl rfl ?_
    refine XS.iconst X27.here hx rfl (hb hby at_40) ?_
    refine XS.iload X27.here hx rfl (hb hby at_41) rfl ?_
    exact kt
  obtain ⟨_, _, ⟨T31, L31, k31, n31⟩, -, X31w, hS31w, hg31, ⟨Lc31, hQ31, l31, y31, z31, CR31⟩, st31⟩ := callSS (s := s.setVm T23.vm) X27 hx (y := (⟨"com/example/grantline/grantline/PercentEncodingHasBadEscapePinLaw", "pick", "(I)C"⟩ : MethodName)) hown23 (mvT hZ23 (hw _ (List.mem_of_getElem? (i := 2) rfl))) (mvT hZ23 (hw _ (List.mem_of_getElem? (i := 3) rfl))) (mvT hZ23 (hw _ (List.mem_of_getElem? (i := 4) rfl))) (mvT hZ23 (hw _ (List.mem_of_getElem? (i := 5) rfl))) (by decide) (backOfSH (s := s) (W := 2) (rm1 l Z a0 hw [] p5 wc fm h27 n0 Z27 G28 S_c hwc hfm S_f S_a S_h S_l hEL) hZ23 (hw _ (List.mem_of_getElem? (i := 5) rfl)) (hw _ (List.mem_of_getElem? (i := 4) rfl)) (by decide) (by decide) hEL CH27.1) (g := (mkF m 43 #[.val (.int p1), .val (.int p2), .val (.int p3), .val (.int p4), .val (.int p5), .val (.int p6), .val (.int kn), .val (.ref b3), .unset, .unset] [(.int p5), (.int (3 : Int32)), (.ref b3)])) rfl (by rw [hml]; rfl) (argsL := [(.int p5)]) (rest := [(.int (3 : Int32)), (.ref b3)]) (lenOf pd_14 rfl) rfl (by show 2 * 0 + _ ≤ _; exact Nat.le_of_eq rfl) (hb hby at_43) (fun _ _ => ⟨rfl, e27, (by decide : 7 + 2 ≤ _), (by decide : 281 + 92 ≤ _)⟩)
  dsimp only [Pt.U, Pt.locs, Pt.cells, Pt.slots] at X31w l31 y31 z31 st31 hQ31 hS31w hg31 CR31
  subst l31 y31 z31
  obtain ⟨X31, hS31, hZ31, hown31⟩ := rebS (s := s) hS23 hks27 X31w hS31w (Nat.le_trans (Nat.le_of_eq (congrArg Array.size e27.symm)) hg31) hZ23 hown23
  obtain ⟨z31, rfl, N31q, K31q, hz31⟩ := hQ31
  have N31 := Fr.app N27 N31q
  have G32 : Old Z n0 T31.heap := G28.keep K31q (all0)
  have G33 : Arv Z T31.heap b3 k3 .char (5 : Int32) [(.int (nar .char z7)), (.int (nar .char z15)), (.int (nar .char z23)), (.int (0 : Int32)), (.int (0 : Int32))] (.int (0 : Int32)) := G29.keep K31q (nin0)
  have K31 : Keep h0 T31.heap [] := K27.trans K31q all0
  have Z31 : n0 ≤ T31.heap.size := Nat.le_trans Z27 K31q.1
  obtain ⟨cl34, Ar34, qa34, Sa34, Na34, Ha34, Ga34⟩ := id G33
  have hin34 : ¬ ((3 : Int32) < 0 ∨ cl34.slots.size ≤ ((3 : Int32)).toNatClampNeg) := inb_of Sa34 ⟨by decide, by decide⟩
  obtain ⟨T35, h35, X35, e35, W35, st35⟩ := stC X31 hx hZ31 rfl Ar34 (j := (3 : Int32)) hin34 (g := (mkF m 46 #[.val (.int p1), .val (.int p2), .val (.int p3), .val (.int p4), .val (.int p5), .val (.int p6), .val (.int kn), .val (.ref b3), .unset, .unset] [(.int z31), (.int (3 : Int32)), (.ref b3)])) rfl rfl (hb hby at_46)
  have N35 := Fr.snoc X35 N31 g_b3
  have K35 : Keep h0 h35 [] := K31.wr W35 (Or.inr sz_b3)
  have Z35 : n0 ≤ h35.size := Nat.le_trans Z31 (Keep.of_wr W35).1
  have hks35 := Nat.le_trans (Nat.le_refl _) (Keep.of_wr W35).1
  have CH35 := CHr.wr W35 (Safe.arr hZ31.alike Ar34 (by decide)) CR31.1
  have G36 : Old Z n0 h35 := G32.wr W35 g_b3
  have G37 : Arv Z h35 b3 k3 .char (5 : Int32) [(.int (nar .char z7)), (.int (nar .char z15)), (.int (nar .char z23)), (.int (nar .char z31)), (.int (0 : Int32))] (.int (0 : Int32)) := Arv.set Ar34 qa34 Sa34 Na34 Ha34 Ga34 (fits_nar_char _) W35 3 rfl (Nat.le_of_ble_eq_true rfl)
  have st38 : ∀ tg, Steps p.tables e below (T35.setTop (mkF m 52 #[.val (.int p1), .val (.int p2), .val (.int p3), .val (.int p4), .val (.int p5), .val (.int p6), .val (.int kn), .val (.ref b3), .unset, .unset] [(.int p6), (.int (4 : Int32)), (.ref b3)])) tg → Steps p.tables e below (T35.setTop (mkF m 47 #[.val (.int p1), .val (.int p2), .val (.int p3), .val (.int p4), .val (.int p5), .val (.int p6), .val (.int kn), .val (.ref b3), .unset, .unset] [])) tg := by
    intro tg kt
    refine XS.aload X35.here hx rfl (hb hby at_47) rfl rfl ?_
    refine XS.iconst X35.here hx rfl (hb hby at_49) ?_
    refine XS.iload X35.here hx rfl (hb hby at_50) rfl ?_
    exact kt
  obtain ⟨_, _, ⟨T39, L39, k39, n39⟩, -, X39w, hS39w, hg39, ⟨Lc39, hQ39, l39, y39, z39, CR39⟩, st39⟩ := callSS (s := s.setVm T31.vm) X35 hx (y := (⟨"com/example/grantline/grantline/PercentEncodingHasBadEscapePinLaw", "pick", "(I)C"⟩ : MethodName)) hown31 (mvT hZ31 (hw _ (List.mem_of_getElem? (i := 2) rfl))) (mvT hZ31 (hw _ (List.mem_of_getElem? (i := 3) rfl))) (mvT hZ31 (hw _ (List.mem_of_getElem? (i := 4) rfl))) (mvT hZ31 (hw _ (List.mem_of_getElem? (i := 5) rfl))) (by decide) (backOfSH (s := s) (W := 2) (rm1 l Z a0 hw [] p6 wc fm h35 n0 Z35 G36 S_c hwc hfm S_f S_a S_h S_l hEL) hZ31 (hw _ (List.mem_of_getElem? (i := 5) rfl)) (hw _ (List.mem_of_getElem? (i := 4) rfl)) (by decide) (by decide) hEL CH35.1) (g := (mkF m 52 #[.val (.int p1), .val (.int p2), .val (.int p3), .val (.int p4), .val (.int p5), .val (.int p6), .val (.int kn), .val (.ref b3), .unset, .unset] [(.int p6), (.int (4 : Int32)), (.ref b3)])) rfl (by rw [hml]; rfl) (argsL := [(.int p6)]) (rest := [(.int (4 : Int32)), (.ref b3)]) (lenOf pd_14 rfl) rfl (by show 2 * 0 + _ ≤ _; exact Nat.le_of_eq rfl) (hb hby at_52) (fun _ _ => ⟨rfl, e35, (by decide : 9 + 2 ≤ _), (by decide : 373 + 92 ≤ _)⟩)
  dsimp only [Pt.U, Pt.locs, Pt.cells, Pt.slots] at X39w l39 y39 z39 st39 hQ39 hS39w hg39 CR39
  subst l39 y39 z39
  obtain ⟨X39, hS39, hZ39, hown39⟩ := rebS (s := s) hS31 hks35 X39w hS39w (Nat.le_trans (Nat.le_of_eq (congrArg Array.size e35.symm)) hg39) hZ31 hown31
  obtain ⟨z39, rfl, N39q, K39q, hz39⟩ := hQ39
  have N39 := Fr.app N35 N39q
  have G40 : Old Z n0 T39.heap := G36.keep K39q (all0)
  have G41 : Arv Z T39.heap b3 k3 .char (5 : Int32) [(.int (nar .char z7)), (.int (nar .char z15)), (.int (nar .char z23)), (.int (nar .char z31)), (.int (0 : Int32))] (.int (0 : Int32)) := G37.keep K39q (nin0)
  have K39 : Keep h0 T39.heap [] := K35.trans K39q all0
  have Z39 : n0 ≤ T39.heap.size := Nat.le_trans Z35 K39q.1
  obtain ⟨cl42, Ar42, qa42, Sa42, Na42, Ha42, Ga42⟩ := id G41
  have hin42 : ¬ ((4 : Int32) < 0 ∨ cl42.slots.size ≤ ((4 : Int32)).toNatClampNeg) := inb_of Sa42 ⟨by decide, by decide⟩
  obtain ⟨T43, h43, X43, e43, W43, st43⟩ := stC X39 hx hZ39 rfl Ar42 (j := (4 : Int32)) hin42 (g := (mkF m 55 #[.val (.int p1), .val (.int p2), .val (.int p3), .val (.int p4), .val (.int p5), .val (.int p6), .val (.int kn), .val (.ref b3), .unset, .unset] [(.int z39), (.int (4 : Int32)), (.ref b3)])) rfl rfl (hb hby at_55)
  have N43 := Fr.snoc X43 N39 g_b3
  have K43 : Keep h0 h43 [] := K39.wr W43 (Or.inr sz_b3)
  have Z43 : n0 ≤ h43.size := Nat.le_trans Z39 (Keep.of_wr W43).1
  have hks43 := Nat.le_trans (Nat.le_refl _) (Keep.of_wr W43).1
  have CH43 := CHr.wr W43 (Safe.arr hZ39.alike Ar42 (by decide)) CR39.1
  have G44 : Old Z n0 h43 := G40.wr W43 g_b3
  have G45 : Arv Z h43 b3 k3 .char (5 : Int32) [(.int (nar .char z7)), (.int (nar .char z15)), (.int (nar .char z23)), (.int (nar .char z31)), (.int (nar .char z39))] (.int (0 : Int32)) := Arv.set Ar42 qa42 Sa42 Na42 Ha42 Ga42 (fits_nar_char _) W43 4 rfl (Nat.le_of_ble_eq_true rfl)
  obtain ⟨CF, hC0, hC1, hC2, hC3, hC4, hCc⟩ : ∃ C : Nat → Int32, C 0 = (nar .char z7) ∧ C 1 = (nar .char z15) ∧ C 2 = (nar .char z23) ∧ C 3 = (nar .char z31) ∧ C 4 = (nar .char z39) ∧ ∀ j, IsCh (C j) := ⟨own_cf (nar .char z7) (nar .char z15) (nar .char z23) (nar .char z31) (nar .char z39), rfl, rfl, rfl, rfl, rfl, own_cf_ch (own_isch_nar _) (own_isch_nar _) (own_isch_nar _) (own_isch_nar _) (own_isch_nar _)⟩
  have tail : ∀ (N : Nat) (bt : Addr) (vt : Vm) (Tt : State) (lt : List Loc) (kt0 : Nat), N ≤ 5 → StrF Z Tt.heap bt N CF → ArF Z Tt.heap b3 .char 5 CF → Old Z n0 Tt.heap → n0 ≤ Tt.heap.size → Z.Warmed39 (s.setVm vt).vm → (s.setVm vt).vm.findClass "com/example/grantline/grantline/PercentEncodingHasBadEscapePinLaw" = some m.cls → s.Since vt kt0 → kt0 ≤ Tt.heap.size → Fr n0 lt → Stand p l e room_1 (s.setVm vt) m #[(.int p1), (.int p2), (.int p3), (.int p4), (.int p5), (.int p6)] below meth c Tt lt 24 2240 → (∀ tg, Steps p.tables e below (Tt.setTop (mkF m 277 #[.val (.int p1), .val (.int p2), .val (.int p3), .val (.int p4), .val (.int p5), .val (.int p6), .val (.int (Int32.ofNat N)), .val (.ref b3), .val (.ref bt), .unset] [])) tg → Steps p.tables e below (s₁.setTop (entryFrame m #[(.int p1), (.int p2), (.int p3), (.int p4), (.int p5), (.int p6)] maxLocals)) tg) → False := by
    intro N bt vt Tt lt kt0 hN5 HS GA7 OLDt Zt hZt hownt hSt hkt Nt Xt pt
    have st46 : ∀ tg, Steps p.tables e below (Tt.setTop (mkF m 282 #[.val (.int p1), .val (.int p2), .val (.int p3), .val (.int p4), .val (.int p5), .val (.int p6), .val (.int (Int32.ofNat N)), .val (.ref b3), .val (.ref bt), .unset] [(.int (0 : Int32)), (.int (Int32.ofNat N)), (.ref b3)])) tg → Steps p.tables e below (Tt.setTop (mkF m 277 #[.val (.int p1), .val (.int p2), .val (.int p3), .val (.int p4), .val (.int p5), .val (.int p6), .val (.int (Int32.ofNat N)), .val (.ref b3), .val (.ref bt), .unset] [])) tg := by
      intro tg kt
      refine XS.aload Xt.here hx rfl (hb hby at_277) rfl rfl ?_
      refine XS.iload Xt.here hx rfl (hb hby at_279) rfl ?_
      refine XS.iconst Xt.here hx rfl (hb hby at_281) ?_
      exact kt
    obtain ⟨_, _, ⟨T47, L47, k47, n47⟩, -, X47, ⟨Lc47, hQ47, l47, y47, z47⟩, st47⟩ := Jvm.LawKit.callS Xt hx (y := (⟨"com/example/grantline/grantline/PercentEncodingHasBadEscapePinLaw", "badAt", "([CII)Z"⟩ : MethodName)) hownt (mvT hZt (hw _ (List.mem_of_getElem? (i := 52) rfl))) (mvT hZt (hw _ (List.mem_of_getElem? (i := 53) rfl))) (mvT hZt (hw _ (List.mem_of_getElem? (i := 4) rfl))) (mvT hZt (hw _ (List.mem_of_getElem? (i := 54) rfl))) (by decide) (backOf (W := 0) (rm10 l Z a0 hw [] b3 N CF 0 Tt.heap n0 Zt hN5 (by decide) GA7) hZt (hw _ (List.mem_of_getElem? (i := 54) rfl)) (hw _ (List.mem_of_getElem? (i := 4) rfl)) (by decide) (by decide)) (g := (mkF m 282 #[.val (.int p1), .val (.int p2), .val (.int p3), .val (.int p4), .val (.int p5), .val (.int p6), .val (.int (Int32.ofNat N)), .val (.ref b3), .val (.ref bt), .unset] [(.int (0 : Int32)), (.int (Int32.ofNat N)), (.ref b3)])) rfl (by rw [hml]; rfl) (argsL := [(.ref b3), (.int (Int32.ofNat N)), (.int (0 : Int32))]) (rest := []) (lenOf pd_24 rfl) rfl (by show 2 * 0 + _ ≤ _; exact Nat.le_of_eq rfl) (hb hby at_282) (fun _ _ => ⟨rfl, rfl, (by decide : 24 + 0 ≤ _), (by decide : 2240 + 0 ≤ _)⟩)
    dsimp only [Pt.U, Pt.locs, Pt.cells, Pt.slots] at X47 l47 y47 z47 st47 hQ47
    subst l47 y47 z47
    obtain ⟨z47, rfl, N47q, e47, Pz47⟩ := hQ47
    have N47 := Fr.app Nt N47q
    by_cases hc285_48 : z47 = 0
    · -- pc 285: z47 = 0
      have st49 : ∀ tg, Steps p.tables e below (T47.setTop (mkF m 293 #[.val (.int p1), .val (.int p2), .val (.int p3), .val (.int p4), .val (.int p5), .val (.int p6), .val (.int (Int32.ofNat N)), .val (.ref b3), .val (.ref bt), .unset] [(.int (1 : Int32)), (.int (Int32.ofNat N)), (.ref b3)])) tg → Steps p.tables e below (T47.setTop (mkF m 285 #[.val (.int p1), .val (.int p2), .val (.int p3), .val (.int p4), .val (.int p5), .val (.int p6), .val (.int (Int32.ofNat N)), .val (.ref b3), .val (.ref bt), .unset] [(.int z47)])) tg := by
        intro tg kt
        refine XS.ifNo X47.here hx rfl (hb hby at_285) rfl (XT.i0_ne_f hc285_48) ?_
        refine XS.aload X47.here hx rfl (hb hby at_288) rfl rfl ?_
        refine XS.iload X47.here hx rfl (hb hby at_290) rfl ?_
        refine XS.iconst X47.here hx rfl (hb hby at_292) ?_
        exact kt
      obtain ⟨_, _, ⟨T50, L50, k50, n50⟩, -, X50, ⟨Lc50, hQ50, l50, y50, z50⟩, st50⟩ := Jvm.LawKit.callS X47 hx (y := (⟨"com/example/grantline/grantline/PercentEncodingHasBadEscapePinLaw", "badAt", "([CII)Z"⟩ : MethodName)) hownt (mvT hZt (hw _ (List.mem_of_getElem? (i := 52) rfl))) (mvT hZt (hw _ (List.mem_of_getElem? (i := 53) rfl))) (mvT hZt (hw _ (List.mem_of_getElem? (i := 4) rfl))) (mvT hZt (hw _ (List.mem_of_getElem? (i := 54) rfl))) (by decide) (backOf (W := 0) (rm10 l Z a0 hw [] b3 N CF 1 Tt.heap n0 Zt hN5 (by decide) GA7) hZt (hw _ (List.mem_of_getElem? (i := 54) rfl)) (hw _ (List.mem_of_getElem? (i := 4) rfl)) (by decide) (by decide)) (g := (mkF m 293 #[.val (.int p1), .val (.int p2), .val (.int p3), .val (.int p4), .val (.int p5), .val (.int p6), .val (.int (Int32.ofNat N)), .val (.ref b3), .val (.ref bt), .unset] [(.int (1 : Int32)), (.int (Int32.ofNat N)), (.ref b3)])) rfl (by rw [hml]; rfl) (argsL := [(.ref b3), (.int (Int32.ofNat N)), (.int (1 : Int32))]) (rest := []) (lenOf pd_24 rfl) rfl (by show 2 * 0 + _ ≤ _; exact Nat.le_of_eq rfl) (hb hby at_293) (fun _ _ => ⟨rfl, e47, (by decide : 24 + 0 ≤ _), (by decide : 2240 + 0 ≤ _)⟩)
      dsimp only [Pt.U, Pt.locs, Pt.cells, Pt.slots] at X50 l50 y50 z50 st50 hQ50
      subst l50 y50 z50
      obtain ⟨z50, rfl, N50q, e50, Pz50⟩ := hQ50
      have N50 := Fr.app N47 N50q
      by_cases hc296_51 : z50 = 0
      · -- pc 296: z50 = 0
        have st52 : ∀ tg, Steps p.tables e below (T50.setTop (mkF m 304 #[.val (.int p1), .val (.int p2), .val (.int p3), .val (.int p4), .val (.int p5), .val (.int p6), .val (.int (Int32.ofNat N)), .val (.ref b3), .val (.ref bt), .unset] [(.int (2 : Int32)), (.int (Int32.ofNat N)), (.ref b3)])) tg → Steps p.tables e below (T50.setTop (mkF m 296 #[.val (.int p1), .val (.int p2), .val (.int p3), .val (.int p4), .val (.int p5), .val (.int p6), .val (.int (Int32.ofNat N)), .val (.ref b3), .val (.ref bt), .unset] [(.int z50)])) tg := by
          intro tg kt
          refine XS.ifNo X50.here hx rfl (hb hby at_296) rfl (XT.i0_ne_f hc296_51) ?_
          refine XS.aload X50.here hx rfl (hb hby at_299) rfl rfl ?_
          refine XS.iload X50.here hx rfl (hb hby at_301) rfl ?_
          refine XS.iconst X50.here hx rfl (hb hby at_303) ?_
          exact kt
        obtain ⟨_, _, ⟨T53, L53, k53, n53⟩, -, X53, ⟨Lc53, hQ53, l53, y53, z53⟩, st53⟩ := Jvm.LawKit.callS X50 hx (y := (⟨"com/example/grantline/grantline/PercentEncodingHasBadEscapePinLaw", "badAt", "([CII)Z"⟩ : MethodName)) hownt (mvT hZt (hw _ (List.mem_of_getElem? (i := 52) rfl))) (mvT hZt (hw _ (List.mem_of_getElem? (i := 53) rfl))) (mvT hZt (hw _ (List.mem_of_getElem? (i := 4) rfl))) (mvT hZt (hw _ (List.mem_of_getElem? (i := 54) rfl))) (by decide) (backOf (W := 0) (rm10 l Z a0 hw [] b3 N CF 2 Tt.heap n0 Zt hN5 (by decide) GA7) hZt (hw _ (List.mem_of_getElem? (i := 54) rfl)) (hw _ (List.mem_of_getElem? (i := 4) rfl)) (by decide) (by decide)) (g := (mkF m 304 #[.val (.int p1), .val (.int p2), .val (.int p3), .val (.int p4), .val (.int p5), .val (.int p6), .val (.int (Int32.ofNat N)), .val (.ref b3), .val (.ref bt), .unset] [(.int (2 : Int32)), (.int (Int32.ofNat N)), (.ref b3)])) rfl (by rw [hml]; rfl) (argsL := [(.ref b3), (.int (Int32.ofNat N)), (.int (2 : Int32))]) (rest := []) (lenOf pd_24 rfl) rfl (by show 2 * 0 + _ ≤ _; exact Nat.le_of_eq rfl) (hb hby at_304) (fun _ _ => ⟨rfl, e50, (by decide : 24 + 0 ≤ _), (by decide : 2240 + 0 ≤ _)⟩)
        dsimp only [Pt.U, Pt.locs, Pt.cells, Pt.slots] at X53 l53 y53 z53 st53 hQ53
        subst l53 y53 z53
        obtain ⟨z53, rfl, N53q, e53, Pz53⟩ := hQ53
        have N53 := Fr.app N50 N53q
        by_cases hc307_54 : z53 = 0
        · -- pc 307: z53 = 0
          have st55 : ∀ tg, Steps p.tables e below (T53.setTop (mkF m 315 #[.val (.int p1), .val (.int p2), .val (.int p3), .val (.int p4), .val (.int p5), .val (.int p6), .val (.int (Int32.ofNat N)), .val (.ref b3), .val (.ref bt), .unset] [(.int (3 : Int32)), (.int (Int32.ofNat N)), (.ref b3)])) tg → Steps p.tables e below (T53.setTop (mkF m 307 #[.val (.int p1), .val (.int p2), .val (.int p3), .val (.int p4), .val (.int p5), .val (.int p6), .val (.int (Int32.ofNat N)), .val (.ref b3), .val (.ref bt), .unset] [(.int z53)])) tg := by
            intro tg kt
            refine XS.ifNo X53.here hx rfl (hb hby at_307) rfl (XT.i0_ne_f hc307_54) ?_
            refine XS.aload X53.here hx rfl (hb hby at_310) rfl rfl ?_
            refine XS.iload X53.here hx rfl (hb hby at_312) rfl ?_
            refine XS.iconst X53.here hx rfl (hb hby at_314) ?_
            exact kt
          obtain ⟨_, _, ⟨T56, L56, k56, n56⟩, -, X56, ⟨Lc56, hQ56, l56, y56, z56⟩, st56⟩ := Jvm.LawKit.callS X53 hx (y := (⟨"com/example/grantline/grantline/PercentEncodingHasBadEscapePinLaw", "badAt", "([CII)Z"⟩ : MethodName)) hownt (mvT hZt (hw _ (List.mem_of_getElem? (i := 52) rfl))) (mvT hZt (hw _ (List.mem_of_getElem? (i := 53) rfl))) (mvT hZt (hw _ (List.mem_of_getElem? (i := 4) rfl))) (mvT hZt (hw _ (List.mem_of_getElem? (i := 54) rfl))) (by decide) (backOf (W := 0) (rm10 l Z a0 hw [] b3 N CF 3 Tt.heap n0 Zt hN5 (by decide) GA7) hZt (hw _ (List.mem_of_getElem? (i := 54) rfl)) (hw _ (List.mem_of_getElem? (i := 4) rfl)) (by decide) (by decide)) (g := (mkF m 315 #[.val (.int p1), .val (.int p2), .val (.int p3), .val (.int p4), .val (.int p5), .val (.int p6), .val (.int (Int32.ofNat N)), .val (.ref b3), .val (.ref bt), .unset] [(.int (3 : Int32)), (.int (Int32.ofNat N)), (.ref b3)])) rfl (by rw [hml]; rfl) (argsL := [(.ref b3), (.int (Int32.ofNat N)), (.int (3 : Int32))]) (rest := []) (lenOf pd_24 rfl) rfl (by show 2 * 0 + _ ≤ _; exact Nat.le_of_eq rfl) (hb hby at_315) (fun _ _ => ⟨rfl, e53, (by decide : 24 + 0 ≤ _), (by decide : 2240 + 0 ≤ _)⟩)
          dsimp only [Pt.U, Pt.locs, Pt.cells, Pt.slots] at X56 l56 y56 z56 st56 hQ56
          subst l56 y56 z56
          obtain ⟨z56, rfl, N56q, e56, Pz56⟩ := hQ56
          have N56 := Fr.app N53 N56q
          by_cases hc318_57 : z56 = 0
          · -- pc 318: z56 = 0
            have st58 : ∀ tg, Steps p.tables e below (T56.setTop (mkF m 326 #[.val (.int p1), .val (.int p2), .val (.int p3), .val (.int p4), .val (.int p5), .val (.int p6), .val (.int (Int32.ofNat N)), .val (.ref b3), .val (.ref bt), .unset] [(.int (4 : Int32)), (.int (Int32.ofNat N)), (.ref b3)])) tg → Steps p.tables e below (T56.setTop (mkF m 318 #[.val (.int p1), .val (.int p2), .val (.int p3), .val (.int p4), .val (.int p5), .val (.int p6), .val (.int (Int32.ofNat N)), .val (.ref b3), .val (.ref bt), .unset] [(.int z56)])) tg := by
              intro tg kt
              refine XS.ifNo X56.here hx rfl (hb hby at_318) rfl (XT.i0_ne_f hc318_57) ?_
              refine XS.aload X56.here hx rfl (hb hby at_321) rfl rfl ?_
              refine XS.iload X56.here hx rfl (hb hby at_323) rfl ?_
              refine XS.iconst X56.here hx rfl (hb hby at_325) ?_
              exact kt
            obtain ⟨_, _, ⟨T59, L59, k59, n59⟩, -, X59, ⟨Lc59, hQ59, l59, y59, z59⟩, st59⟩ := Jvm.LawKit.callS X56 hx (y := (⟨"com/example/grantline/grantline/PercentEncodingHasBadEscapePinLaw", "badAt", "([CII)Z"⟩ : MethodName)) hownt (mvT hZt (hw _ (List.mem_of_getElem? (i := 52) rfl))) (mvT hZt (hw _ (List.mem_of_getElem? (i := 53) rfl))) (mvT hZt (hw _ (List.mem_of_getElem? (i := 4) rfl))) (mvT hZt (hw _ (List.mem_of_getElem? (i := 54) rfl))) (by decide) (backOf (W := 0) (rm10 l Z a0 hw [] b3 N CF 4 Tt.heap n0 Zt hN5 (by decide) GA7) hZt (hw _ (List.mem_of_getElem? (i := 54) rfl)) (hw _ (List.mem_of_getElem? (i := 4) rfl)) (by decide) (by decide)) (g := (mkF m 326 #[.val (.int p1), .val (.int p2), .val (.int p3), .val (.int p4), .val (.int p5), .val (.int p6), .val (.int (Int32.ofNat N)), .val (.ref b3), .val (.ref bt), .unset] [(.int (4 : Int32)), (.int (Int32.ofNat N)), (.ref b3)])) rfl (by rw [hml]; rfl) (argsL := [(.ref b3), (.int (Int32.ofNat N)), (.int (4 : Int32))]) (rest := []) (lenOf pd_24 rfl) rfl (by show 2 * 0 + _ ≤ _; exact Nat.le_of_eq rfl) (hb hby at_326) (fun _ _ => ⟨rfl, e56, (by decide : 24 + 0 ≤ _), (by decide : 2240 + 0 ≤ _)⟩)
            dsimp only [Pt.U, Pt.locs, Pt.cells, Pt.slots] at X59 l59 y59 z59 st59 hQ59
            subst l59 y59 z59
            obtain ⟨z59, rfl, N59q, e59, Pz59⟩ := hQ59
            have N59 := Fr.app N56 N59q
            by_cases hc329_60 : z59 = 0
            · -- pc 329: z59 = 0
              have st61 : ∀ tg, Steps p.tables e below (T59.setTop (mkF m 341 #[.val (.int p1), .val (.int p2), .val (.int p3), .val (.int p4), .val (.int p5), .val (.int p6), .val (.int (Int32.ofNat N)), .val (.ref b3), .val (.ref bt), .val (.int (0 : Int32))] [(.ref bt)])) tg → Steps p.tables e below (T59.setTop (mkF m 329 #[.val (.int p1), .val (.int p2), .val (.int p3), .val (.int p4), .val (.int p5), .val (.int p6), .val (.int (Int32.ofNat N)), .val (.ref b3), .val (.ref bt), .unset] [(.int z59)])) tg := by
                intro tg kt
                refine XS.ifYes X59.here hx rfl (pc0 := 329) (pc' := 336) rfl (hb hby at_329) rfl (XT.i0_eq_t hc329_60) (by decide) (by decide) ?_
                refine XS.iconst X59.here hx rfl (hb hby at_336) ?_
                refine XS.istore X59.here hx rfl (hb hby at_337) rfl (l' := #[.val (.int p1), .val (.int p2), .val (.int p3), .val (.int p4), .val (.int p5), .val (.int p6), .val (.int (Int32.ofNat N)), .val (.ref b3), .val (.ref bt), .val (.int (0 : Int32))]) rfl ?_
                refine XS.aload X59.here hx rfl (hb hby at_339) rfl rfl ?_
                exact kt
              obtain ⟨_, _, ⟨T62, L62, k62, n62⟩, -, X62, ⟨Lc62, hQ62, l62, y62, z62⟩, st62⟩ := Jvm.LawKit.callS X59 hx (y := (⟨"com/example/grantline/grantline/PercentEncoding", "hasBadEscape", "(Ljava/lang/String;)Z"⟩ : MethodName)) hownt (mvT hZt (hw _ (List.mem_of_getElem? (i := 55) rfl))) (mvT hZt (hw _ (List.mem_of_getElem? (i := 56) rfl))) (mvT hZt (hw _ (List.mem_of_getElem? (i := 57) rfl))) (mvT hZt (hw _ (List.mem_of_getElem? (i := 58) rfl))) (by decide) (backOf (W := 0) (rm11 l Z a0 hw [] bt N CF wc fm Tt.heap n0 Zt OLDt S_c hwc hfm S_f S_a S_h S_l (by omega) HS) hZt (hw _ (List.mem_of_getElem? (i := 58) rfl)) (hw _ (List.mem_of_getElem? (i := 57) rfl)) (by decide) (by decide)) (g := (mkF m 341 #[.val (.int p1), .val (.int p2), .val (.int p3), .val (.int p4), .val (.int p5), .val (.int p6), .val (.int (Int32.ofNat N)), .val (.ref b3), .val (.ref bt), .val (.int (0 : Int32))] [(.ref bt)])) rfl (by rw [hml]; rfl) (argsL := [(.ref bt)]) (rest := []) (lenOf pd_25 rfl) rfl (by show 2 * 0 + _ ≤ _; exact Nat.le_of_eq rfl) (hb hby at_341) (fun _ _ => ⟨rfl, e59, (by decide : 24 + 0 ≤ _), (by decide : 2240 + 0 ≤ _)⟩)
              dsimp only [Pt.U, Pt.locs, Pt.cells, Pt.slots] at X62 l62 y62 z62 st62 hQ62
              subst l62 y62 z62
              obtain ⟨z62, rfl, N62q, e62, Pz62⟩ := hQ62
              have N62 := Fr.app N59 N62q
              have st64 : ∀ tg, Steps p.tables e below (T62.setTop (mkF m 346 #[.val (.int p1), .val (.int p2), .val (.int p3), .val (.int p4), .val (.int p5), .val (.int p6), .val (.int (Int32.ofNat N)), .val (.ref b3), .val (.ref bt), .val (.int (0 : Int32))] [(.int (0 : Int32)), (.int z62)])) tg → Steps p.tables e below (T62.setTop (mkF m 344 #[.val (.int p1), .val (.int p2), .val (.int p3), .val (.int p4), .val (.int p5), .val (.int p6), .val (.int (Int32.ofNat N)), .val (.ref b3), .val (.ref bt), .val (.int (0 : Int32))] [(.int z62)])) tg := by
                intro tg kt
                refine XS.iload X62.here hx rfl (hb hby at_344) rfl ?_
                exact kt
              have hf63 : z62 = (0 : Int32) := own_hb_0 Pz62 hN5 (own_ba_eq Pz47 hc285_48) (own_ba_eq Pz50 hc296_51) (own_ba_eq Pz53 hc307_54) (own_ba_eq Pz56 hc318_57) (own_ba_eq Pz59 hc329_60)
              have st65 : ∀ tg, Steps p.tables e below (T62.setTop (mkF m 354 #[.val (.int p1), .val (.int p2), .val (.int p3), .val (.int p4), .val (.int p5), .val (.int p6), .val (.int (Int32.ofNat N)), .val (.ref b3), .val (.ref bt), .val (.int (0 : Int32))] [(.int (1 : Int32))])) tg → Steps p.tables e below (T62.setTop (mkF m 346 #[.val (.int p1), .val (.int p2), .val (.int p3), .val (.int p4), .val (.int p5), .val (.int p6), .val (.int (Int32.ofNat N)), .val (.ref b3), .val (.ref bt), .val (.int (0 : Int32))] [(.int (0 : Int32)), (.int z62)])) tg := by
                intro tg kt
                refine XS.icmpNo X62.here hx rfl (hb hby at_346) rfl (XT.ii_ne_f hf63) ?_
                refine XS.iconst X62.here hx rfl (hb hby at_349) ?_
                refine XS.goto X62.here hx rfl (pc0 := 350) (pc' := 354) rfl (hb hby at_350) (by decide) (by decide) ?_
                exact kt
              obtain ⟨fs, hr, hrun, hended, hRW⟩ := Stand.leaveW (s := s) X62 hSt (by rw [e62]; exact hkt) (v := some (.int (1 : Int32))) (fun h => by rw [Bd.returns] at h; cases h)
              refine hG ⟨_, _, pt _ ?_, hrun, hended, _, _, rfl, ?_, hRW.1, hRW.2.1, hRW.2.2.1, hRW.2.2.2.mono (by decide) (by decide)⟩
              · refine st46 _ ?_
                show Steps p.tables e below (Tt.setTop (mkF m 282 #[.val (.int p1), .val (.int p2), .val (.int p3), .val (.int p4), .val (.int p5), .val (.int p6), .val (.int (Int32.ofNat N)), .val (.ref b3), .val (.ref bt), .unset] [(.int (0 : Int32)), (.int (Int32.ofNat N)), (.ref b3)])) _
                refine st47 _ ?_
                refine st49 _ ?_
                show Steps p.tables e below (T47.setTop (mkF m 293 #[.val (.int p1), .val (.int p2), .val (.int p3), .val (.int p4), .val (.int p5), .val (.int p6), .val (.int (Int32.ofNat N)), .val (.ref b3), .val (.ref bt), .unset] [(.int (1 : Int32)), (.int (Int32.ofNat N)), (.ref b3)])) _
                refine st50 _ ?_
                refine st52 _ ?_
                show Steps p.tables e below (T50.setTop (mkF m 304 #[.val (.int p1), .val (.int p2), .val (.int p3), .val (.int p4), .val (.int p5), .val (.int p6), .val (.int (Int32.ofNat N)), .val (.ref b3), .val (.ref bt), .unset] [(.int (2 : Int32)), (.int (Int32.ofNat N)), (.ref b3)])) _
                refine st53 _ ?_
                refine st55 _ ?_
                show Steps p.tables e below (T53.setTop (mkF m 315 #[.val (.int p1), .val (.int p2), .val (.int p3), .val (.int p4), .val (.int p5), .val (.int p6), .val (.int (Int32.ofNat N)), .val (.ref b3), .val (.ref bt), .unset] [(.int (3 : Int32)), (.int (Int32.ofNat N)), (.ref b3)])) _
                refine st56 _ ?_
                refine st58 _ ?_
                show Steps p.tables e below (T56.setTop (mkF m 326 #[.val (.int p1), .val (.int p2), .val (.int p3), .val (.int p4), .val (.int p5), .val (.int p6), .val (.int (Int32.ofNat N)), .val (.ref b3), .val (.ref bt), .unset] [(.int (4 : Int32)), (.int (Int32.ofNat N)), (.ref b3)])) _
                refine st59 _ ?_
                refine st61 _ ?_
                show Steps p.tables e below (T59.setTop (mkF m 341 #[.val (.int p1), .val (.int p2), .val (.int p3), .val (.int p4), .val (.int p5), .val (.int p6), .val (.int (Int32.ofNat N)), .val (.ref b3), .val (.ref bt), .val (.int (0 : Int32))] [(.ref bt)])) _
                refine st62 _ ?_
                refine st64 _ ?_
                refine st65 _ ?_
                show Steps p.tables e below (T62.setTop (mkF m 354 #[.val (.int p1), .val (.int p2), .val (.int p3), .val (.int p4), .val (.int p5), .val (.int p6), .val (.int (Int32.ofNat N)), .val (.ref b3), .val (.ref bt), .val (.int (0 : Int32))] [(.int (1 : Int32))])) _
                exact retN X62 hx (t := .boolean) Bd.returns (by simp) (hb hby at_354) hr
              · show Q0 Z p1 p2 p3 p4 p5 p6 wc fm h0 n0 _ T62.heap _
                rw [e62]
                exact ⟨rfl, N62⟩
            · -- pc 329: not z59 = 0
              have st66 : ∀ tg, Steps p.tables e below (T59.setTop (mkF m 341 #[.val (.int p1), .val (.int p2), .val (.int p3), .val (.int p4), .val (.int p5), .val (.int p6), .val (.int (Int32.ofNat N)), .val (.ref b3), .val (.ref bt), .val (.int (1 : Int32))] [(.ref bt)])) tg → Steps p.tables e below (T59.setTop (mkF m 329 #[.val (.int p1), .val (.int p2), .val (.int p3), .val (.int p4), .val (.int p5), .val (.int p6), .val (.int (Int32.ofNat N)), .val (.ref b3), .val (.ref bt), .unset] [(.int z59)])) tg := by
                intro tg kt
                refine XS.ifNo X59.here hx rfl (hb hby at_329) rfl (XT.i0_eq_f hc329_60) ?_
                refine XS.iconst X59.here hx rfl (hb hby at_332) ?_
                refine XS.goto X59.here hx rfl (pc0 := 333) (pc' := 337) rfl (hb hby at_333) (by decide) (by decide) ?_
                refine XS.istore X59.here hx rfl (hb hby at_337) rfl (l' := #[.val (.int p1), .val (.int p2), .val (.int p3), .val (.int p4), .val (.int p5), .val (.int p6), .val (.int (Int32.ofNat N)), .val (.ref b3), .val (.ref bt), .val (.int (1 : Int32))]) rfl ?_
                show Steps p.tables e below (T59.setTop (mkF m 339 #[.val (.int p1), .val (.int p2), .val (.int p3), .val (.int p4), .val (.int p5), .val (.int p6), .val (.int (Int32.ofNat N)), .val (.ref b3), .val (.ref bt), .val (.int (1 : Int32))] [])) tg
                refine XS.aload X59.here hx rfl (hb hby at_339) rfl rfl ?_
                exact kt
              obtain ⟨_, _, ⟨T67, L67, k67, n67⟩, -, X67, ⟨Lc67, hQ67, l67, y67, z67⟩, st67⟩ := Jvm.LawKit.callS X59 hx (y := (⟨"com/example/grantline/grantline/PercentEncoding", "hasBadEscape", "(Ljava/lang/String;)Z"⟩ : MethodName)) hownt (mvT hZt (hw _ (List.mem_of_getElem? (i := 55) rfl))) (mvT hZt (hw _ (List.mem_of_getElem? (i := 56) rfl))) (mvT hZt (hw _ (List.mem_of_getElem? (i := 57) rfl))) (mvT hZt (hw _ (List.mem_of_getElem? (i := 58) rfl))) (by decide) (backOf (W := 0) (rm11 l Z a0 hw [] bt N CF wc fm Tt.heap n0 Zt OLDt S_c hwc hfm S_f S_a S_h S_l (by omega) HS) hZt (hw _ (List.mem_of_getElem? (i := 58) rfl)) (hw _ (List.mem_of_getElem? (i := 57) rfl)) (by decide) (by decide)) (g := (mkF m 341 #[.val (.int p1), .val (.int p2), .val (.int p3), .val (.int p4), .val (.int p5), .val (.int p6), .val (.int (Int32.ofNat N)), .val (.ref b3), .val (.ref bt), .val (.int (1 : Int32))] [(.ref bt)])) rfl (by rw [hml]; rfl) (argsL := [(.ref bt)]) (rest := []) (lenOf pd_25 rfl) rfl (by show 2 * 0 + _ ≤ _; exact Nat.le_of_eq rfl) (hb hby at_341) (fun _ _ => ⟨rfl, e59, (by decide : 24 + 0 ≤ _), (by decide : 2240 + 0 ≤ _)⟩)
              dsimp only [Pt.U, Pt.locs, Pt.cells, Pt.slots] at X67 l67 y67 z67 st67 hQ67
              subst l67 y67 z67
              obtain ⟨z67, rfl, N67q, e67, Pz67⟩ := hQ67
              have N67 := Fr.app N59 N67q
              have st69 : ∀ tg, Steps p.tables e below (T67.setTop (mkF m 346 #[.val (.int p1), .val (.int p2), .val (.int p3), .val (.int p4), .val (.int p5), .val (.int p6), .val (.int (Int32.ofNat N)), .val (.ref b3), .val (.ref bt), .val (.int (1 : Int32))] [(.int (1 : Int32)), (.int z67)])) tg → Steps p.tables e below (T67.setTop (mkF m 344 #[.val (.int p1), .val (.int p2), .val (.int p3), .val (.int p4), .val (.int p5), .val (.int p6), .val (.int (Int32.ofNat N)), .val (.ref b3), .val (.ref bt), .val (.int (1 : Int32))] [(.int z67)])) tg := by
                intro tg kt
                refine XS.iload X67.here hx rfl (hb hby at_344) rfl ?_
                exact kt
              have hf68 : z67 = (1 : Int32) := own_hb_1 Pz67 (own_ba_ne Pz59 hc329_60)
              have st70 : ∀ tg, Steps p.tables e below (T67.setTop (mkF m 354 #[.val (.int p1), .val (.int p2), .val (.int p3), .val (.int p4), .val (.int p5), .val (.int p6), .val (.int (Int32.ofNat N)), .val (.ref b3), .val (.ref bt), .val (.int (1 : Int32))] [(.int (1 : Int32))])) tg → Steps p.tables e below (T67.setTop (mkF m 346 #[.val (.int p1), .val (.int p2), .val (.int p3), .val (.int p4), .val (.int p5), .val (.int p6), .val (.int (Int32.ofNat N)), .val (.ref b3), .val (.ref bt), .val (.int (1 : Int32))] [(.int (1 : Int32)), (.int z67)])) tg := by
                intro tg kt
                refine XS.icmpNo X67.here hx rfl (hb hby at_346) rfl (XT.ii_ne_f hf68) ?_
                refine XS.iconst X67.here hx rfl (hb hby at_349) ?_
                refine XS.goto X67.here hx rfl (pc0 := 350) (pc' := 354) rfl (hb hby at_350) (by decide) (by decide) ?_
                exact kt
              obtain ⟨fs, hr, hrun, hended, hRW⟩ := Stand.leaveW (s := s) X67 hSt (by rw [e67]; exact hkt) (v := some (.int (1 : Int32))) (fun h => by rw [Bd.returns] at h; cases h)
              refine hG ⟨_, _, pt _ ?_, hrun, hended, _, _, rfl, ?_, hRW.1, hRW.2.1, hRW.2.2.1, hRW.2.2.2.mono (by decide) (by decide)⟩
              · refine st46 _ ?_
                show Steps p.tables e below (Tt.setTop (mkF m 282 #[.val (.int p1), .val (.int p2), .val (.int p3), .val (.int p4), .val (.int p5), .val (.int p6), .val (.int (Int32.ofNat N)), .val (.ref b3), .val (.ref bt), .unset] [(.int (0 : Int32)), (.int (Int32.ofNat N)), (.ref b3)])) _
                refine st47 _ ?_
                refine st49 _ ?_
                show Steps p.tables e below (T47.setTop (mkF m 293 #[.val (.int p1), .val (.int p2), .val (.int p3), .val (.int p4), .val (.int p5), .val (.int p6), .val (.int (Int32.ofNat N)), .val (.ref b3), .val (.ref bt), .unset] [(.int (1 : Int32)), (.int (Int32.ofNat N)), (.ref b3)])) _
                refine st50 _ ?_
                refine st52 _ ?_
                show Steps p.tables e below (T50.setTop (mkF m 304 #[.val (.int p1), .val (.int p2), .val (.int p3), .val (.int p4), .val (.int p5), .val (.int p6), .val (.int (Int32.ofNat N)), .val (.ref b3), .val (.ref bt), .unset] [(.int (2 : Int32)), (.int (Int32.ofNat N)), (.ref b3)])) _
                refine st53 _ ?_
                refine st55 _ ?_
                show Steps p.tables e below (T53.setTop (mkF m 315 #[.val (.int p1), .val (.int p2), .val (.int p3), .val (.int p4), .val (.int p5), .val (.int p6), .val (.int (Int32.ofNat N)), .val (.ref b3), .val (.ref bt), .unset] [(.int (3 : Int32)), (.int (Int32.ofNat N)), (.ref b3)])) _
                refine st56 _ ?_
                refine st58 _ ?_
                show Steps p.tables e below (T56.setTop (mkF m 326 #[.val (.int p1), .val (.int p2), .val (.int p3), .val (.int p4), .val (.int p5), .val (.int p6), .val (.int (Int32.ofNat N)), .val (.ref b3), .val (.ref bt), .unset] [(.int (4 : Int32)), (.int (Int32.ofNat N)), (.ref b3)])) _
                refine st59 _ ?_
                refine st66 _ ?_
                show Steps p.tables e below (T59.setTop (mkF m 341 #[.val (.int p1), .val (.int p2), .val (.int p3), .val (.int p4), .val (.int p5), .val (.int p6), .val (.int (Int32.ofNat N)), .val (.ref b3), .val (.ref bt), .val (.int (1 : Int32))] [(.ref bt)])) _
                refine st67 _ ?_
                refine st69 _ ?_
                refine st70 _ ?_
                show Steps p.tables e below (T67.setTop (mkF m 354 #[.val (.int p1), .val (.int p2), .val (.int p3), .val (.int p4), .val (.int p5), .val (.int p6), .val (.int (Int32.ofNat N)), .val (.ref b3), .val (.ref bt), .val (.int (1 : Int32))] [(.int (1 : Int32))])) _
                exact retN X67 hx (t := .boolean) Bd.returns (by simp) (hb hby at_354) hr
              · show Q0 Z p1 p2 p3 p4 p5 p6 wc fm h0 n0 _ T67.heap _
                rw [e67]
                exact ⟨rfl, N67⟩
          · -- pc 318: not z56 = 0
            have st71 : ∀ tg, Steps p.tables e below (T56.setTop (mkF m 341 #[.val (.int p1), .val (.int p2), .val (.int p3), .val (.int p4), .val (.int p5), .val (.int p6), .val (.int (Int32.ofNat N)), .val (.ref b3), .val (.ref bt), .val (.int (1 : Int32))] [(.ref bt)])) tg → Steps p.tables e below (T56.setTop (mkF m 318 #[.val (.int p1), .val (.int p2), .val (.int p3), .val (.int p4), .val (.int p5), .val (.int p6), .val (.int (Int32.ofNat N)), .val (.ref b3), .val (.ref bt), .unset] [(.int z56)])) tg := by
              intro tg kt
              refine XS.ifYes X56.here hx rfl (pc0 := 318) (pc' := 332) rfl (hb hby at_318) rfl (XT.i0_ne_t hc318_57) (by decide) (by decide) ?_
              refine XS.iconst X56.here hx rfl (hb hby at_332) ?_
              refine XS.goto X56.here hx rfl (pc0 := 333) (pc' := 337) rfl (hb hby at_333) (by decide) (by decide) ?_
              refine XS.istore X56.here hx rfl (hb hby at_337) rfl (l' := #[.val (.int p1), .val (.int p2), .val (.int p3), .val (.int p4), .val (.int p5), .val (.int p6), .val (.int (Int32.ofNat N)), .val (.ref b3), .val (.ref bt), .val (.int (1 : Int32))]) rfl ?_
              show Steps p.tables e below (T56.setTop (mkF m 339 #[.val (.int p1), .val (.int p2), .val (.int p3), .val (.int p4), .val (.int p5), .val (.int p6), .val (.int (Int32.ofNat N)), .val (.ref b3), .val (.ref bt), .val (.int (1 : Int32))] [])) tg
              refine XS.aload X56.here hx rfl (hb hby at_339) rfl rfl ?_
              exact kt
            obtain ⟨_, _, ⟨T72, L72, k72, n72⟩, -, X72, ⟨Lc72, hQ72, l72, y72, z72⟩, st72⟩ := Jvm.LawKit.callS X56 hx (y := (⟨"com/example/grantline/grantline/PercentEncoding", "hasBadEscape", "(Ljava/lang/String;)Z"⟩ : MethodName)) hownt (mvT hZt (hw _ (List.mem_of_getElem? (i := 55) rfl))) (mvT hZt (hw _ (List.mem_of_getElem? (i := 56) rfl))) (mvT hZt (hw _ (List.mem_of_getElem? (i := 57) rfl))) (mvT hZt (hw _ (List.mem_of_getElem? (i := 58) rfl))) (by decide) (backOf (W := 0) (rm11 l Z a0 hw [] bt N CF wc fm Tt.heap n0 Zt OLDt S_c hwc hfm S_f S_a S_h S_l (by omega) HS) hZt (hw _ (List.mem_of_getElem? (i := 58) rfl)) (hw _ (List.mem_of_getElem? (i := 57) rfl)) (by decide) (by decide)) (g := (mkF m 341 #[.val (.int p1), .val (.int p2), .val (.int p3), .val (.int p4), .val (.int p5), .val (.int p6), .val (.int (Int32.ofNat N)), .val (.ref b3), .val (.ref bt), .val (.int (1 : Int32))] [(.ref bt)])) rfl (by rw [hml]; rfl) (argsL := [(.ref bt)]) (rest := []) (lenOf pd_25 rfl) rfl (by show 2 * 0 + _ ≤ _; exact Nat.le_of_eq rfl) (hb hby at_341) (fun _ _ => ⟨rfl, e56, (by decide : 24 + 0 ≤ _), (by decide : 2240 + 0 ≤ _)⟩)
            dsimp only [Pt.U, Pt.locs, Pt.cells, Pt.slots] at X72 l72 y72 z72 st72 hQ72
            subst l72 y72 z72
            obtain ⟨z72, rfl, N72q, e72, Pz72⟩ := hQ72
            have N72 := Fr.app N56 N72q
            have st74 : ∀ tg, Steps p.tables e below (T72.setTop (mkF m 346 #[.val (.int p1), .val (.int p2), .val (.int p3), .val (.int p4), .val (.int p5), .val (.int p6), .val (.int (Int32.ofNat N)), .val (.ref b3), .val (.ref bt), .val (.int (1 : Int32))] [(.int (1 : Int32)), (.int z72)])) tg → Steps p.tables e below (T72.setTop (mkF m 344 #[.val (.int p1), .val (.int p2), .val (.int p3), .val (.int p4), .val (.int p5), .val (.int p6), .val (.int (Int32.ofNat N)), .val (.ref b3), .val (.ref bt), .val (.int (1 : Int32))] [(.int z72)])) tg := by
              intro tg kt
              refine XS.iload X72.here hx rfl (hb hby at_344) rfl ?_
              exact kt
            have hf73 : z72 = (1 : Int32) := own_hb_1 Pz72 (own_ba_ne Pz56 hc318_57)
            have st75 : ∀ tg, Steps p.tables e below (T72.setTop (mkF m 354 #[.val (.int p1), .val (.int p2), .val (.int p3), .val (.int p4), .val (.int p5), .val (.int p6), .val (.int (Int32.ofNat N)), .val (.ref b3), .val (.ref bt), .val (.int (1 : Int32))] [(.int (1 : Int32))])) tg → Steps p.tables e below (T72.setTop (mkF m 346 #[.val (.int p1), .val (.int p2), .val (.int p3), .val (.int p4), .val (.int p5), .val (.int p6), .val (.int (Int32.ofNat N)), .val (.ref b3), .val (.ref bt), .val (.int (1 : Int32))] [(.int (1 : Int32)), (.int z72)])) tg := by
              intro tg kt
              refine XS.icmpNo X72.here hx rfl (hb hby at_346) rfl (XT.ii_ne_f hf73) ?_
              refine XS.iconst X72.here hx rfl (hb hby at_349) ?_
              refine XS.goto X72.here hx rfl (pc0 := 350) (pc' := 354) rfl (hb hby at_350) (by decide) (by decide) ?_
              exact kt
            obtain ⟨fs, hr, hrun, hended, hRW⟩ := Stand.leaveW (s := s) X72 hSt (by rw [e72]; exact hkt) (v := some (.int (1 : Int32))) (fun h => by rw [Bd.returns] at h; cases h)
            refine hG ⟨_, _, pt _ ?_, hrun, hended, _, _, rfl, ?_, hRW.1, hRW.2.1, hRW.2.2.1, hRW.2.2.2.mono (by decide) (by decide)⟩
            · refine st46 _ ?_
              show Steps p.tables e below (Tt.setTop (mkF m 282 #[.val (.int p1), .val (.int p2), .val (.int p3), .val (.int p4), .val (.int p5), .val (.int p6), .val (.int (Int32.ofNat N)), .val (.ref b3), .val (.ref bt), .unset] [(.int (0 : Int32)), (.int (Int32.ofNat N)), (.ref b3)])) _
              refine st47 _ ?_
              refine st49 _ ?_
              show Steps p.tables e below (T47.setTop (mkF m 293 #[.val (.int p1), .val (.int p2), .val (.int p3), .val (.int p4), .val (.int p5), .val (.int p6), .val (.int (Int32.ofNat N)), .val (.ref b3), .val (.ref bt), .unset] [(.int (1 : Int32)), (.int (Int32.ofNat N)), (.ref b3)])) _
              refine st50 _ ?_
              refine st52 _ ?_
              show Steps p.tables e below (T50.setTop (mkF m 304 #[.val (.int p1), .val (.int p2), .val (.int p3), .val (.int p4), .val (.int p5), .val (.int p6), .val (.int (Int32.ofNat N)), .val (.ref b3), .val (.ref bt), .unset] [(.int (2 : Int32)), (.int (Int32.ofNat N)), (.ref b3)])) _
              refine st53 _ ?_
              refine st55 _ ?_
              show Steps p.tables e below (T53.setTop (mkF m 315 #[.val (.int p1), .val (.int p2), .val (.int p3), .val (.int p4), .val (.int p5), .val (.int p6), .val (.int (Int32.ofNat N)), .val (.ref b3), .val (.ref bt), .unset] [(.int (3 : Int32)), (.int (Int32.ofNat N)), (.ref b3)])) _
              refine st56 _ ?_
              refine st71 _ ?_
              show Steps p.tables e below (T56.setTop (mkF m 341 #[.val (.int p1), .val (.int p2), .val (.int p3), .val (.int p4), .val (.int p5), .val (.int p6), .val (.int (Int32.ofNat N)), .val (.ref b3), .val (.ref bt), .val (.int (1 : Int32))] [(.ref bt)])) _
              refine st72 _ ?_
              refine st74 _ ?_
              refine st75 _ ?_
              show Steps p.tables e below (T72.setTop (mkF m 354 #[.val (.int p1), .val (.int p2), .val (.int p3), .val (.int p4), .val (.int p5), .val (.int p6), .val (.int (Int32.ofNat N)), .val (.ref b3), .val (.ref bt), .val (.int (1 : Int32))] [(.int (1 : Int32))])) _
              exact retN X72 hx (t := .boolean) Bd.returns (by simp) (hb hby at_354) hr
            · show Q0 Z p1 p2 p3 p4 p5 p6 wc fm h0 n0 _ T72.heap _
              rw [e72]
              exact ⟨rfl, N72⟩
        · -- pc 307: not z53 = 0
          have st76 : ∀ tg, Steps p.tables e below (T53.setTop (mkF m 341 #[.val (.int p1), .val (.int p2), .val (.int p3), .val (.int p4), .val (.int p5), .val (.int p6), .val (.int (Int32.ofNat N)), .val (.ref b3), .val (.ref bt), .val (.int (1 : Int32))] [(.ref bt)])) tg → Steps p.tables e below (T53.setTop (mkF m 307 #[.val (.int p1), .val (.int p2), .val (.int p3), .val (.int p4), .val (.int p5), .val (.int p6), .val (.int (Int32.ofNat N)), .val (.ref b3), .val (.ref bt), .unset] [(.int z53)])) tg := by
            intro tg kt
            refine XS.ifYes X53.here hx rfl (pc0 := 307) (pc' := 332) rfl (hb hby at_307) rfl (XT.i0_ne_t hc307_54) (by decide) (by decide) ?_
            refine XS.iconst X53.here hx rfl (hb hby at_332) ?_
            refine XS.goto X53.here hx rfl (pc0 := 333) (pc' := 337) rfl (hb hby at_333) (by decide) (by decide) ?_
            refine XS.istore X53.here hx rfl (hb hby at_337) rfl (l' := #[.val (.int p1), .val (.int p2), .val (.int p3), .val (.int p4), .val (.int p5), .val (.int p6), .val (.int (Int32.ofNat N)), .val (.ref b3), .val (.ref bt), .val (.int (1 : Int32))]) rfl ?_
            show Steps p.tables e below (T53.setTop (mkF m 339 #[.val (.int p1), .val (.int p2), .val (.int p3), .val (.int p4), .val (.int p5), .val (.int p6), .val (.int (Int32.ofNat N)), .val (.ref b3), .val (.ref bt), .val (.int (1 : Int32))] [])) tg
            refine XS.aload X53.here hx rfl (hb hby at_339) rfl rfl ?_
            exact kt
          obtain ⟨_, _, ⟨T77, L77, k77, n77⟩, -, X77, ⟨Lc77, hQ77, l77, y77, z77⟩, st77⟩ := Jvm.LawKit.callS X53 hx (y := (⟨"com/example/grantline/grantline/PercentEncoding", "hasBadEscape", "(Ljava/lang/String;)Z"⟩ : MethodName)) hownt (mvT hZt (hw _ (List.mem_of_getElem? (i := 55) rfl))) (mvT hZt (hw _ (List.mem_of_getElem? (i := 56) rfl))) (mvT hZt (hw _ (List.mem_of_getElem? (i := 57) rfl))) (mvT hZt (hw _ (List.mem_of_getElem? (i := 58) rfl))) (by decide) (backOf (W := 0) (rm11 l Z a0 hw [] bt N CF wc fm Tt.heap n0 Zt OLDt S_c hwc hfm S_f S_a S_h S_l (by omega) HS) hZt (hw _ (List.mem_of_getElem? (i := 58) rfl)) (hw _ (List.mem_of_getElem? (i := 57) rfl)) (by decide) (by decide)) (g := (mkF m 341 #[.val (.int p1), .val (.int p2), .val (.int p3), .val (.int p4), .val (.int p5), .val (.int p6), .val (.int (Int32.ofNat N)), .val (.ref b3), .val (.ref bt), .val (.int (1 : Int32))] [(.ref bt)])) rfl (by rw [hml]; rfl) (argsL := [(.ref bt)]) (rest := []) (lenOf pd_25 rfl) rfl (by show 2 * 0 + _ ≤ _; exact Nat.le_of_eq rfl) (hb hby at_341) (fun _ _ => ⟨rfl, e53, (by decide : 24 + 0 ≤ _), (by decide : 2240 + 0 ≤ _)⟩)
          dsimp only [Pt.U, Pt.locs, Pt.cells, Pt.slots] at X77 l77 y77 z77 st77 hQ77
          subst l77 y77 z77
          obtain ⟨z77, rfl, N77q, e77, Pz77⟩ := hQ77
          have N77 := Fr.app N53 N77q
          have st79 : ∀ tg, Steps p.tables e below (T77.setTop (mkF m 346 #[.val (.int p1), .val (.int p2), .val (.int p3), .val (.int p4), .val (.int p5), .val (.int p6), .val (.int (Int32.ofNat N)), .val (.ref b3), .val (.ref bt), .val (.int (1 : Int32))] [(.int (1 : Int32)), (.int z77)])) tg → Steps p.tables e below (T77.setTop (mkF m 344 #[.val (.int p1), .val (.int p2), .val (.int p3), .val (.int p4), .val (.int p5), .val (.int p6), .val (.int (Int32.ofNat N)), .val (.ref b3), .val (.ref bt), .val (.int (1 : Int32))] [(.int z77)])) tg := by
            intro tg kt
            refine XS.iload X77.here hx rfl (hb hby at_344) rfl ?_
            exact kt
          have hf78 : z77 = (1 : Int32) := own_hb_1 Pz77 (own_ba_ne Pz53 hc307_54)
          have st80 : ∀ tg, Steps p.tables e below (T77.setTop (mkF m 354 #[.val (.int p1), .val (.int p2), .val (.int p3), .val (.int p4), .val (.int p5), .val (.int p6), .val (.int (Int32.ofNat N)), .val (.ref b3), .val (.ref bt), .val (.int (1 : Int32))] [(.int (1 : Int32))])) tg → Steps p.tables e below (T77.setTop (mkF m 346 #[.val (.int p1), .val (.int p2), .val (.int p3), .val (.int p4), .val (.int p5), .val (.int p6), .val (.int (Int32.ofNat N)), .val (.ref b3), .val (.ref bt), .val (.int (1 : Int32))] [(.int (1 : Int32)), (.int z77)])) tg := by
            intro tg kt
            refine XS.icmpNo X77.here hx rfl (hb hby at_346) rfl (XT.ii_ne_f hf78) ?_
            refine XS.iconst X77.here hx rfl (hb hby at_349) ?_
            refine XS.goto X77.here hx rfl (pc0 := 350) (pc' := 354) rfl (hb hby at_350) (by decide) (by decide) ?_
            exact kt
          obtain ⟨fs, hr, hrun, hended, hRW⟩ := Stand.leaveW (s := s) X77 hSt (by rw [e77]; exact hkt) (v := some (.int (1 : Int32))) (fun h => by rw [Bd.returns] at h; cases h)
          refine hG ⟨_, _, pt _ ?_, hrun, hended, _, _, rfl, ?_, hRW.1, hRW.2.1, hRW.2.2.1, hRW.2.2.2.mono (by decide) (by decide)⟩
          · refine st46 _ ?_
            show Steps p.tables e below (Tt.setTop (mkF m 282 #[.val (.int p1), .val (.int p2), .val (.int p3), .val (.int p4), .val (.int p5), .val (.int p6), .val (.int (Int32.ofNat N)), .val (.ref b3), .val (.ref bt), .unset] [(.int (0 : Int32)), (.int (Int32.ofNat N)), (.ref b3)])) _
            refine st47 _ ?_
            refine st49 _ ?_
            show Steps p.tables e below (T47.setTop (mkF m 293 #[.val (.int p1), .val (.int p2), .val (.int p3), .val (.int p4), .val (.int p5), .val (.int p6), .val (.int (Int32.ofNat N)), .val (.ref b3), .val (.ref bt), .unset] [(.int (1 : Int32)), (.int (Int32.ofNat N)), (.ref b3)])) _
            refine st50 _ ?_
            refine st52 _ ?_
            show Steps p.tables e below (T50.setTop (mkF m 304 #[.val (.int p1), .val (.int p2), .val (.int p3), .val (.int p4), .val (.int p5), .val (.int p6), .val (.int (Int32.ofNat N)), .val (.ref b3), .val (.ref bt), .unset] [(.int (2 : Int32)), (.int (Int32.ofNat N)), (.ref b3)])) _
            refine st53 _ ?_
            refine st76 _ ?_
            show Steps p.tables e below (T53.setTop (mkF m 341 #[.val (.int p1), .val (.int p2), .val (.int p3), .val (.int p4), .val (.int p5), .val (.int p6), .val (.int (Int32.ofNat N)), .val (.ref b3), .val (.ref bt), .val (.int (1 : Int32))] [(.ref bt)])) _
            refine st77 _ ?_
            refine st79 _ ?_
            refine st80 _ ?_
            show Steps p.tables e below (T77.setTop (mkF m 354 #[.val (.int p1), .val (.int p2), .val (.int p3), .val (.int p4), .val (.int p5), .val (.int p6), .val (.int (Int32.ofNat N)), .val (.ref b3), .val (.ref bt), .val (.int (1 : Int32))] [(.int (1 : Int32))])) _
            exact retN X77 hx (t := .boolean) Bd.returns (by simp) (hb hby at_354) hr
          · show Q0 Z p1 p2 p3 p4 p5 p6 wc fm h0 n0 _ T77.heap _
            rw [e77]
            exact ⟨rfl, N77⟩
      · -- pc 296: not z50 = 0
        have st81 : ∀ tg, Steps p.tables e below (T50.setTop (mkF m 341 #[.val (.int p1), .val (.int p2), .val (.int p3), .val (.int p4), .val (.int p5), .val (.int p6), .val (.int (Int32.ofNat N)), .val (.ref b3), .val (.ref bt), .val (.int (1 : Int32))] [(.ref bt)])) tg → Steps p.tables e below (T50.setTop (mkF m 296 #[.val (.int p1), .val (.int p2), .val (.int p3), .val (.int p4), .val (.int p5), .val (.int p6), .val (.int (Int32.ofNat N)), .val (.ref b3), .val (.ref bt), .unset] [(.int z50)])) tg := by
          intro tg kt
          refine XS.ifYes X50.here hx rfl (pc0 := 296) (pc' := 332) rfl (hb hby at_296) rfl (XT.i0_ne_t hc296_51) (by decide) (by decide) ?_
          refine XS.iconst X50.here hx rfl (hb hby at_332) ?_
          refine XS.goto X50.here hx rfl (pc0 := 333) (pc' := 337) rfl (hb hby at_333) (by decide) (by decide) ?_
          refine XS.istore X50.here hx rfl (hb hby at_337) rfl (l' := #[.val (.int p1), .val (.int p2), .val (.int p3), .val (.int p4), .val (.int p5), .val (.int p6), .val (.int (Int32.ofNat N)), .val (.ref b3), .val (.ref bt), .val (.int (1 : Int32))]) rfl ?_
          show Steps p.tables e below (T50.setTop (mkF m 339 #[.val (.int p1), .val (.int p2), .val (.int p3), .val (.int p4), .val (.int p5), .val (.int p6), .val (.int (Int32.ofNat N)), .val (.ref b3), .val (.ref bt), .val (.int (1 : Int32))] [])) tg
          refine XS.aload X50.here hx rfl (hb hby at_339) rfl rfl ?_
          exact kt
        obtain ⟨_, _, ⟨T82, L82, k82, n82⟩, -, X82, ⟨Lc82, hQ82, l82, y82, z82⟩, st82⟩ := Jvm.LawKit.callS X50 hx (y := (⟨"com/example/grantline/grantline/PercentEncoding", "hasBadEscape", "(Ljava/lang/String;)Z"⟩ : MethodName)) hownt (mvT hZt (hw _ (List.mem_of_getElem? (i := 55) rfl))) (mvT hZt (hw _ (List.mem_of_getElem? (i := 56) rfl))) (mvT hZt (hw _ (List.mem_of_getElem? (i := 57) rfl))) (mvT hZt (hw _ (List.mem_of_getElem? (i := 58) rfl))) (by decide) (backOf (W := 0) (rm11 l Z a0 hw [] bt N CF wc fm Tt.heap n0 Zt OLDt S_c hwc hfm S_f S_a S_h S_l (by omega) HS) hZt (hw _ (List.mem_of_getElem? (i := 58) rfl)) (hw _ (List.mem_of_getElem? (i := 57) rfl)) (by decide) (by decide)) (g := (mkF m 341 #[.val (.int p1), .val (.int p2), .val (.int p3), .val (.int p4), .val (.int p5), .val (.int p6), .val (.int (Int32.ofNat N)), .val (.ref b3), .val (.ref bt), .val (.int (1 : Int32))] [(.ref bt)])) rfl (by rw [hml]; rfl) (argsL := [(.ref bt)]) (rest := []) (lenOf pd_25 rfl) rfl (by show 2 * 0 + _ ≤ _; exact Nat.le_of_eq rfl) (hb hby at_341) (fun _ _ => ⟨rfl, e50, (by decide : 24 + 0 ≤ _), (by decide : 2240 + 0 ≤ _)⟩)
        dsimp only [Pt.U, Pt.locs, Pt.cells, Pt.slots] at X82 l82 y82 z82 st82 hQ82
        subst l82 y82 z82
        obtain ⟨z82, rfl, N82q, e82, Pz82⟩ := hQ82
        have N82 := Fr.app N50 N82q
        have st84 : ∀ tg, Steps p.tables e below (T82.setTop (mkF m 346 #[.val (.int p1), .val (.int p2), .val (.int p3), .val (.int p4), .val (.int p5), .val (.int p6), .val (.int (Int32.ofNat N)), .val (.ref b3), .val (.ref bt), .val (.int (1 : Int32))] [(.int (1 : Int32)), (.int z82)])) tg → Steps p.tables e below (T82.setTop (mkF m 344 #[.val (.int p1), .val (.int p2), .val (.int p3), .val (.int p4), .val (.int p5), .val (.int p6), .val (.int (Int32.ofNat N)), .val (.ref b3), .val (.ref bt), .val (.int (1 : Int32))] [(.int z82)])) tg := by
          intro tg kt
          refine XS.iload X82.here hx rfl (hb hby at_344) rfl ?_
          exact kt
        have hf83 : z82 = (1 : Int32) := own_hb_1 Pz82 (own_ba_ne Pz50 hc296_51)
        have st85 : ∀ tg, Steps p.tables e below (T82.setTop (mkF m 354 #[.val (.int p1), .val (.int p2), .val (.int p3), .val (.int p4), .val (.int p5), .val (.int p6), .val (.int (Int32.ofNat N)), .val (.ref b3), .val (.ref bt), .val (.int (1 : Int32))] [(.int (1 : Int32))])) tg → Steps p.tables e below (T82.setTop (mkF m 346 #[.val (.int p1), .val (.int p2), .val (.int p3), .val (.int p4), .val (.int p5), .val (.int p6), .val (.int (Int32.ofNat N)), .val (.ref b3), .val (.ref bt), .val (.int (1 : Int32))] [(.int (1 : Int32)), (.int z82)])) tg := by
          intro tg kt
          refine XS.icmpNo X82.here hx rfl (hb hby at_346) rfl (XT.ii_ne_f hf83) ?_
          refine XS.iconst X82.here hx rfl (hb hby at_349) ?_
          refine XS.goto X82.here hx rfl (pc0 := 350) (pc' := 354) rfl (hb hby at_350) (by decide) (by decide) ?_
          exact kt
        obtain ⟨fs, hr, hrun, hended, hRW⟩ := Stand.leaveW (s := s) X82 hSt (by rw [e82]; exact hkt) (v := some (.int (1 : Int32))) (fun h => by rw [Bd.returns] at h; cases h)
        refine hG ⟨_, _, pt _ ?_, hrun, hended, _, _, rfl, ?_, hRW.1, hRW.2.1, hRW.2.2.1, hRW.2.2.2.mono (by decide) (by decide)⟩
        · refine st46 _ ?_
          show Steps p.tables e below (Tt.setTop (mkF m 282 #[.val (.int p1), .val (.int p2), .val (.int p3), .val (.int p4), .val (.int p5), .val (.int p6), .val (.int (Int32.ofNat N)), .val (.ref b3), .val (.ref bt), .unset] [(.int (0 : Int32)), (.int (Int32.ofNat N)), (.ref b3)])) _
          refine st47 _ ?_
          refine st49 _ ?_
          show Steps p.tables e below (T47.setTop (mkF m 293 #[.val (.int p1), .val (.int p2), .val (.int p3), .val (.int p4), .val (.int p5), .val (.int p6), .val (.int (Int32.ofNat N)), .val (.ref b3), .val (.ref bt), .unset] [(.int (1 : Int32)), (.int (Int32.ofNat N)), (.ref b3)])) _
          refine st50 _ ?_
          refine st81 _ ?_
          show Steps p.tables e below (T50.setTop (mkF m 341 #[.val (.int p1), .val (.int p2), .val (.int p3), .val (.int p4), .val (.int p5), .val (.int p6), .val (.int (Int32.ofNat N)), .val (.ref b3), .val (.ref bt), .val (.int (1 : Int32))] [(.ref bt)])) _
          refine st82 _ ?_
          refine st84 _ ?_
          refine st85 _ ?_
          show Steps p.tables e below (T82.setTop (mkF m 354 #[.val (.int p1), .val (.int p2), .val (.int p3), .val (.int p4), .val (.int p5), .val (.int p6), .val (.int (Int32.ofNat N)), .val (.ref b3), .val (.ref bt), .val (.int (1 : Int32))] [(.int (1 : Int32))])) _
          exact retN X82 hx (t := .boolean) Bd.returns (by simp) (hb hby at_354) hr
        · show Q0 Z p1 p2 p3 p4 p5 p6 wc fm h0 n0 _ T82.heap _
          rw [e82]
          exact ⟨rfl, N82⟩
    · -- pc 285: not z47 = 0
      have st86 : ∀ tg, Steps p.tables e below (T47.setTop (mkF m 341 #[.val (.int p1), .val (.int p2), .val (.int p3), .val (.int p4), .val (.int p5), .val (.int p6), .val (.int (Int32.ofNat N)), .val (.ref b3), .val (.ref bt), .val (.int (1 : Int32))] [(.ref bt)])) tg → Steps p.tables e below (T47.setTop (mkF m 285 #[.val (.int p1), .val (.int p2), .val (.int p3), .val (.int p4), .val (.int p5), .val (.int p6), .val (.int (Int32.ofNat N)), .val (.ref b3), .val (.ref bt), .unset] [(.int z47)])) tg := by
        intro tg kt
        refine XS.ifYes X47.here hx rfl (pc0 := 285) (pc' := 332) rfl (hb hby at_285) rfl (XT.i0_ne_t hc285_48) (by decide) (by decide) ?_
        refine XS.iconst X47.here hx rfl (hb hby at_332) ?_
        refine XS.goto X47.here hx rfl (pc0 := 333) (pc' := 337) rfl (hb hby at_333) (by decide) (by decide) ?_
        refine XS.istore X47.here hx rfl (hb hby at_337) rfl (l' := #[.val (.int p1), .val (.int p2), .val (.int p3), .val (.int p4), .val (.int p5), .val (.int p6), .val (.int (Int32.ofNat N)), .val (.ref b3), .val (.ref bt), .val (.int (1 : Int32))]) rfl ?_
        show Steps p.tables e below (T47.setTop (mkF m 339 #[.val (.int p1), .val (.int p2), .val (.int p3), .val (.int p4), .val (.int p5), .val (.int p6), .val (.int (Int32.ofNat N)), .val (.ref b3), .val (.ref bt), .val (.int (1 : Int32))] [])) tg
        refine XS.aload X47.here hx rfl (hb hby at_339) rfl rfl ?_
        exact kt
      obtain ⟨_, _, ⟨T87, L87, k87, n87⟩, -, X87, ⟨Lc87, hQ87, l87, y87, z87⟩, st87⟩ := Jvm.LawKit.callS X47 hx (y := (⟨"com/example/grantline/grantline/PercentEncoding", "hasBadEscape", "(Ljava/lang/String;)Z"⟩ : MethodName)) hownt (mvT hZt (hw _ (List.mem_of_getElem? (i := 55) rfl))) (mvT hZt (hw _ (List.mem_of_getElem? (i := 56) rfl))) (mvT hZt (hw _ (List.mem_of_getElem? (i := 57) rfl))) (mvT hZt (hw _ (List.mem_of_getElem? (i := 58) rfl))) (by decide) (backOf (W := 0) (rm11 l Z a0 hw [] bt N CF wc fm Tt.heap n0 Zt OLDt S_c hwc hfm S_f S_a S_h S_l (by omega) HS) hZt (hw _ (List.mem_of_getElem? (i := 58) rfl)) (hw _ (List.mem_of_getElem? (i := 57) rfl)) (by decide) (by decide)) (g := (mkF m 341 #[.val (.int p1), .val (.int p2), .val (.int p3), .val (.int p4), .val (.int p5), .val (.int p6), .val (.int (Int32.ofNat N)), .val (.ref b3), .val (.ref bt), .val (.int (1 : Int32))] [(.ref bt)])) rfl (by rw [hml]; rfl) (argsL := [(.ref bt)]) (rest := []) (lenOf pd_25 rfl) rfl (by show 2 * 0 + _ ≤ _; exact Nat.le_of_eq rfl) (hb hby at_341) (fun _ _ => ⟨rfl, e47, (by decide : 24 + 0 ≤ _), (by decide : 2240 + 0 ≤ _)⟩)
      dsimp only [Pt.U, Pt.locs, Pt.cells, Pt.slots] at X87 l87 y87 z87 st87 hQ87
      subst l87 y87 z87
      obtain ⟨z87, rfl, N87q, e87, Pz87⟩ := hQ87
      have N87 := Fr.app N47 N87q
      have st89 : ∀ tg, Steps p.tables e below (T87.setTop (mkF m 346 #[.val (.int p1), .val (.int p2), .val (.int p3), .val (.int p4), .val (.int p5), .val (.int p6), .val (.int (Int32.ofNat N)), .val (.ref b3), .val (.ref bt), .val (.int (1 : Int32))] [(.int (1 : Int32)), (.int z87)])) tg → Steps p.tables e below (T87.setTop (mkF m 344 #[.val (.int p1), .val (.int p2), .val (.int p3), .val (.int p4), .val (.int p5), .val (.int p6), .val (.int (Int32.ofNat N)), .val (.ref b3), .val (.ref bt), .val (.int (1 : Int32))] [(.int z87)])) tg := by
        intro tg kt
        refine XS.iload X87.here hx rfl (hb hby at_344) rfl ?_
        exact kt
      have hf88 : z87 = (1 : Int32) := own_hb_1 Pz87 (own_ba_ne Pz47 hc285_48)
      have st90 : ∀ tg, Steps p.tables e below (T87.setTop (mkF m 354 #[.val (.int p1), .val (.int p2), .val (.int p3), .val (.int p4), .val (.int p5), .val (.int p6), .val (.int (Int32.ofNat N)), .val (.ref b3), .val (.ref bt), .val (.int (1 : Int32))] [(.int (1 : Int32))])) tg → Steps p.tables e below (T87.setTop (mkF m 346 #[.val (.int p1), .val (.int p2), .val (.int p3), .val (.int p4), .val (.int p5), .val (.int p6), .val (.int (Int32.ofNat N)), .val (.ref b3), .val (.ref bt), .val (.int (1 : Int32))] [(.int (1 : Int32)), (.int z87)])) tg := by
        intro tg kt
        refine XS.icmpNo X87.here hx rfl (hb hby at_346) rfl (XT.ii_ne_f hf88) ?_
        refine XS.iconst X87.here hx rfl (hb hby at_349) ?_
        refine XS.goto X87.here hx rfl (pc0 := 350) (pc' := 354) rfl (hb hby at_350) (by decide) (by decide) ?_
        exact kt
      obtain ⟨fs, hr, hrun, hended, hRW⟩ := Stand.leaveW (s := s) X87 hSt (by rw [e87]; exact hkt) (v := some (.int (1 : Int32))) (fun h => by rw [Bd.returns] at h; cases h)
      refine hG ⟨_, _, pt _ ?_, hrun, hended, _, _, rfl, ?_, hRW.1, hRW.2.1, hRW.2.2.1, hRW.2.2.2.mono (by decide) (by decide)⟩
      · refine st46 _ ?_
        show Steps p.tables e below (Tt.setTop (mkF m 282 #[.val (.int p1), .val (.int p2), .val (.int p3), .val (.int p4), .val (.int p5), .val (.int p6), .val (.int (Int32.ofNat N)), .val (.ref b3), .val (.ref bt), .unset] [(.int (0 : Int32)), (.int (Int32.ofNat N)), (.ref b3)])) _
        refine st47 _ ?_
        refine st86 _ ?_
        show Steps p.tables e below (T47.setTop (mkF m 341 #[.val (.int p1), .val (.int p2), .val (.int p3), .val (.int p4), .val (.int p5), .val (.int p6), .val (.int (Int32.ofNat N)), .val (.ref b3), .val (.ref bt), .val (.int (1 : Int32))] [(.ref bt)])) _
        refine st87 _ ?_
        refine st89 _ ?_
        refine st90 _ ?_
        show Steps p.tables e below (T87.setTop (mkF m 354 #[.val (.int p1), .val (.int p2), .val (.int p3), .val (.int p4), .val (.int p5), .val (.int p6), .val (.int (Int32.ofNat N)), .val (.ref b3), .val (.ref bt), .val (.int (1 : Int32))] [(.int (1 : Int32))])) _
        exact retN X87 hx (t := .boolean) Bd.returns (by simp) (hb hby at_354) hr
      · show Q0 Z p1 p2 p3 p4 p5 p6 wc fm h0 n0 _ T87.heap _
        rw [e87]
        exact ⟨rfl, N87⟩
  have st92 : ∀ tg, Steps p.tables e below (T43.setTop (mkF m 58 #[.val (.int p1), .val (.int p2), .val (.int p3), .val (.int p4), .val (.int p5), .val (.int p6), .val (.int kn), .val (.ref b3), .unset, .unset] [(.int kn)])) tg → Steps p.tables e below (T43.setTop (mkF m 56 #[.val (.int p1), .val (.int p2), .val (.int p3), .val (.int p4), .val (.int p5), .val (.int p6), .val (.int kn), .val (.ref b3), .unset, .unset] [])) tg := by
    intro tg kt
    refine XS.iload X43.here hx rfl (hb hby at_56) rfl ?_
    exact kt
  by_cases hc58_91 : kn = 0
  · -- pc 58: kn = 0
    have st93 : ∀ tg, Steps p.tables e below (T43.setTop (mkF m 61 #[.val (.int p1), .val (.int p2), .val (.int p3), .val (.int p4), .val (.int p5), .val (.int p6), .val (.int kn), .val (.ref b3), .unset, .unset] [])) tg → Steps p.tables e below (T43.setTop (mkF m 58 #[.val (.int p1), .val (.int p2), .val (.int p3), .val (.int p4), .val (.int p5), .val (.int p6), .val (.int kn), .val (.ref b3), .unset, .unset] [(.int kn)])) tg := by
      intro tg kt
      refine XS.ifNo X43.here hx rfl (hb hby at_58) rfl (XT.i0_ne_f hc58_91) ?_
      exact kt
    obtain ⟨T94, h94, X94, e94, E94, A94, D94, -, st94⟩ := newO X43 hx hZ39 hown39 (hw _ (List.mem_of_getElem? (i := 40) rfl)) (hw _ (List.mem_of_getElem? (i := 9) rfl)) (hw _ (List.mem_of_getElem? (i := 8) rfl)) e43 (g := (mkF m 61 #[.val (.int p1), .val (.int p2), .val (.int p3), .val (.int p4), .val (.int p5), .val (.int p6), .val (.int (0 : Int32)), .val (.ref b3), .unset, .unset] [])) rfl (hb hby at_61) (by decide) (by decide)
    obtain ⟨b94, gz94⟩ : ∃ z, z = h43.size := ⟨_, rfl⟩
    rw [← gz94] at A94 D94 st94
    have ne_b3_b94 : b3 ≠ b94 := Nat.ne_of_lt (Nat.lt_of_lt_of_le G45.lt (Nat.le_of_eq gz94.symm))
    have g_b94 : n0 ≤ b94 := Nat.le_trans Z43 (Nat.le_of_eq gz94.symm)
    have sz_b94 : h0.size ≤ b94 := Nat.le_trans K43.1 (Nat.le_of_eq gz94.symm)
    have G95 : Old Z n0 h94 := G44.ext E94
    have G96 : Arv Z h94 b3 k3 .char (5 : Int32) [(.int (nar .char z7)), (.int (nar .char z15)), (.int (nar .char z23)), (.int (nar .char z31)), (.int (nar .char z39))] (.int (0 : Int32)) := G45.ext E94
    have K94 : Keep h0 h94 [] := K43.ext E94
    have Z94 : n0 ≤ h94.size := Nat.le_trans Z43 E94.1
    have hks94 := Nat.le_trans hks43 E94.1
    have CH94 := CHr.ext E94 CH43.1
    have G97 : Exa Z h94 b94 "java/lang/String" := A94
    have G98 : Fld Z h94 b94 "java/lang/String" "value" "[B" .null := D94 (Or.inr (hw _ (List.mem_of_getElem? (i := 11) rfl))) (ty := (.array .byte)) (by decide)
    have G99 : Fld Z h94 b94 "java/lang/String" "coder" "B" (.int (0 : Int32)) := D94 (Or.inr (hw _ (List.mem_of_getElem? (i := 12) rfl))) (ty := .byte) (by decide)
    have st100 : ∀ tg, Steps p.tables e below (T94.setTop (mkF m 66 #[.val (.int p1), .val (.int p2), .val (.int p3), .val (.int p4), .val (.int p5), .val (.int p6), .val (.int (0 : Int32)), .val (.ref b3), .unset, .unset] [(.int (0 : Int32)), (.ref b94), (.ref b94)])) tg → Steps p.tables e below (T94.setTop (mkF m 64 #[.val (.int p1), .val (.int p2), .val (.int p3), .val (.int p4), .val (.int p5), .val (.int p6), .val (.int (0 : Int32)), .val (.ref b3), .unset, .unset] [(.ref b94)])) tg := by
      intro tg kt
      refine XS.dup X94.here hx rfl (hb hby at_64) rfl rfl ?_
      refine XS.iconst X94.here hx rfl (hb hby at_65) ?_
      exact kt
    obtain ⟨T101, h101, k101, X101, e101, E101, A101, st101⟩ := newP X94 hx hZ39 (hw _ (List.mem_of_getElem? (i := 1) rfl)) e94 (g := (mkF m 66 #[.val (.int p1), .val (.int p2), .val (.int p3), .val (.int p4), .val (.int p5), .val (.int p6), .val (.int (0 : Int32)), .val (.ref b3), .unset, .unset] [(.int (0 : Int32)), (.ref b94), (.ref b94)])) rfl (hb hby at_66) rfl (by decide) (cap := 0) (by decide) (by decide) (by decide) (by decide)
    obtain ⟨b101, gz101⟩ : ∃ z, z = h94.size := ⟨_, rfl⟩
    rw [← gz101] at A101 st101
    have ne_b3_b101 : b3 ≠ b101 := Nat.ne_of_lt (Nat.lt_of_lt_of_le G96.lt (Nat.le_of_eq gz101.symm))
    have ne_b94_b101 : b94 ≠ b101 := Nat.ne_of_lt (Nat.lt_of_lt_of_le G97.lt (Nat.le_of_eq gz101.symm))
    have g_b101 : n0 ≤ b101 := Nat.le_trans Z94 (Nat.le_of_eq gz101.symm)
    have sz_b101 : h0.size ≤ b101 := Nat.le_trans K94.1 (Nat.le_of_eq gz101.symm)
    have G102 : Old Z n0 h101 := G95.ext E101
    have G103 : Arv Z h101 b3 k3 .char (5 : Int32) [(.int (nar .char z7)), (.int (nar .char z15)), (.int (nar .char z23)), (.int (nar .char z31)), (.int (nar .char z39))] (.int (0 : Int32)) := G96.ext E101
    have G104 : Exa Z h101 b94 "java/lang/String" := G97.ext E101
    have G105 : Fld Z h101 b94 "java/lang/String" "value" "[B" .null := G98.ext E101
    have G106 : Fld Z h101 b94 "java/lang/String" "coder" "B" (.int (0 : Int32)) := G99.ext E101
    have K101 : Keep h0 h101 [] := K94.ext E101
    have Z101 : n0 ≤ h101.size := Nat.le_trans Z94 E101.1
    have hks101 := Nat.le_trans hks94 E101.1
    have CH101 := CHr.ext E101 CH94.1
    have G107 : Arv Z h101 b101 k101 .char (0 : Int32) [] (.int (0 : Int32)) := (Arv.new A101 (by decide)).pad (pad_rep [] (.int (0 : Int32)) 0)
    obtain ⟨_, _, ⟨T108, L108, k108, n108⟩, -, X108w, hS108w, hg108, ⟨Lc108, hQ108, l108, y108, z108, CR108⟩, st108⟩ := Stand.specialBackS (s := s.setVm T39.vm) X101 hx (y := (⟨"java/lang/String", "<init>", "([C)V"⟩ : MethodName)) rfl hown39 (mvT hZ39 (hw _ (List.mem_of_getElem? (i := 41) rfl))) (mvT hZ39 (hw _ (List.mem_of_getElem? (i := 42) rfl))) (mvT hZ39 (hw _ (List.mem_of_getElem? (i := 43) rfl))) (by decide) (backOfSH (s := s) (W := 1) (rm7z l Z a0 hw [] b94 b101 CF k101 (.int (0 : Int32)) h101 n0 Z101 G102 hEL G104 G105 G106 g_b94 G107) hZ39 (hw _ (List.mem_of_getElem? (i := 43) rfl)) (hw _ (List.mem_of_getElem? (i := 8) rfl)) (by decide) (by decide) hEL CH101.1) (g := (mkF m 68 #[.val (.int p1), .val (.int p2), .val (.int p3), .val (.int p4), .val (.int p5), .val (.int p6), .val (.int (0 : Int32)), .val (.ref b3), .unset, .unset] [(.ref b101), (.ref b94), (.ref b94)])) rfl (by rw [hml]; rfl) (Steps.refl _) (a := b94) (argsL := [(.ref b101)]) (rest := [(.ref b94)]) (lenOf pd_26 rfl) rfl (by show 2 * 0 + _ ≤ _; exact Nat.le_of_eq rfl) (hb hby at_68) (fun _ _ => ⟨rfl, e101, (by decide : 13 + 4 ≤ _), (by decide : 469 + 8 ≤ _)⟩)
    dsimp only [Pt.U, Pt.locs, Pt.cells, Pt.slots] at X108w l108 y108 z108 st108 hQ108 hS108w hg108 CR108
    subst l108 y108 z108
    obtain ⟨X108, hS108, hZ108, hown108⟩ := rebS (s := s) hS39 hks101 X108w hS108w (Nat.le_trans (Nat.le_of_eq (congrArg Array.size e101.symm)) hg108) hZ39 hown39
    obtain ⟨rfl, N108q, K108q, S108q⟩ := hQ108
    have N108 := Fr.app N43 N108q
    have G109 : Old Z n0 T108.heap := G102.keep K108q (allS g_b94 (all0))
    have G110 : Arv Z T108.heap b3 k3 .char (5 : Int32) [(.int (nar .char z7)), (.int (nar .char z15)), (.int (nar .char z23)), (.int (nar .char z31)), (.int (nar .char z39))] (.int (0 : Int32)) := G103.keep K108q (ninS ne_b3_b94 (nin0))
    have G111 : Exa Z T108.heap b94 "java/lang/String" := G104.keep K108q
    have G112 : Arv Z T108.heap b101 k101 .char (0 : Int32) [] (.int (0 : Int32)) := G107.keep K108q (ninS (Ne.symm ne_b94_b101) (nin0))
    have K108 : Keep h0 T108.heap [] := K101.trans K108q (allS (Or.inr sz_b94) all0)
    have Z108 : n0 ≤ T108.heap.size := Nat.le_trans Z101 K108q.1
    have st113 : ∀ tg, Steps p.tables e below (T108.setTop (mkF m 277 #[.val (.int p1), .val (.int p2), .val (.int p3), .val (.int p4), .val (.int p5), .val (.int p6), .val (.int (0 : Int32)), .val (.ref b3), .val (.ref b94), .unset] [])) tg → Steps p.tables e below (T108.setTop (mkF m 71 #[.val (.int p1), .val (.int p2), .val (.int p3), .val (.int p4), .val (.int p5), .val (.int p6), .val (.int (0 : Int32)), .val (.ref b3), .unset, .unset] [(.ref b94)])) tg := by
      intro tg kt
      refine XS.astore X108.here hx rfl (hb hby at_71) rfl rfl (l' := #[.val (.int p1), .val (.int p2), .val (.int p3), .val (.int p4), .val (.int p5), .val (.int p6), .val (.int (0 : Int32)), .val (.ref b3), .val (.ref b94), .unset]) rfl ?_
      refine XS.goto X108.here hx rfl (pc0 := 73) (pc' := 277) rfl (hb hby at_73) (by decide) (by decide) ?_
      exact kt
    refine tail 0 b94 _ _ _ _ (by decide) S108q (ArF.of_arv G110 (by decide) (fun i hi => match i, hi with | 0, _ => congrArg Value.int hC0.symm | 1, _ => congrArg Value.int hC1.symm | 2, _ => congrArg Value.int hC2.symm | 3, _ => congrArg Value.int hC3.symm | 4, _ => congrArg Value.int hC4.symm | k + 5, hk => absurd hk (by omega))) G109 Z108 hZ108 hown108 hS108 (Nat.le_refl _) N108 (X108.more (by decide) (by decide)) (fun tg kt => ?_)
    refine pre0 _ ?_
    refine st1 _ ?_
    refine st2 _ ?_
    show Steps p.tables e below (s₁.setTop (mkF m 10 #[.val (.int p1), .val (.int p2), .val (.int p3), .val (.int p4), .val (.int p5), .val (.int p6), .val (.int kn), .unset, .unset, .unset] [(.int (5 : Int32))])) _
    refine st3 _ ?_
    refine st6 _ ?_
    show Steps p.tables e below (T3.setTop (mkF m 18 #[.val (.int p1), .val (.int p2), .val (.int p3), .val (.int p4), .val (.int p5), .val (.int p6), .val (.int kn), .val (.ref b3), .unset, .unset] [(.int p2), (.int (0 : Int32)), (.ref b3)])) _
    refine st7.trans ?_
    show Steps p.tables e below (T7.setTop (mkF m 21 #[.val (.int p1), .val (.int p2), .val (.int p3), .val (.int p4), .val (.int p5), .val (.int p6), .val (.int kn), .val (.ref b3), .unset, .unset] [(.int z7), (.int (0 : Int32)), (.ref b3)])) _
    refine st11 _ ?_
    refine st14 _ ?_
    show Steps p.tables e below (T11.setTop (mkF m 26 #[.val (.int p1), .val (.int p2), .val (.int p3), .val (.int p4), .val (.int p5), .val (.int p6), .val (.int kn), .val (.ref b3), .unset, .unset] [(.int p3), (.int (1 : Int32)), (.ref b3)])) _
    refine st15.trans ?_
    show Steps p.tables e below (T15.setTop (mkF m 29 #[.val (.int p1), .val (.int p2), .val (.int p3), .val (.int p4), .val (.int p5), .val (.int p6), .val (.int kn), .val (.ref b3), .unset, .unset] [(.int z15), (.int (1 : Int32)), (.ref b3)])) _
    refine st19 _ ?_
    refine st22 _ ?_
    show Steps p.tables e below (T19.setTop (mkF m 34 #[.val (.int p1), .val (.int p2), .val (.int p3), .val (.int p4), .val (.int p5), .val (.int p6), .val (.int kn), .val (.ref b3), .unset, .unset] [(.int p4), (.int (2 : Int32)), (.ref b3)])) _
    refine st23.trans ?_
    show Steps p.tables e below (T23.setTop (mkF m 37 #[.val (.int p1), .val (.int p2), .val (.int p3), .val (.int p4), .val (.int p5), .val (.int p6), .val (.int kn), .val (.ref b3), .unset, .unset] [(.int z23), (.int (2 : Int32)), (.ref b3)])) _
    refine st27 _ ?_
    refine st30 _ ?_
    show Steps p.tables e below (T27.setTop (mkF m 43 #[.val (.int p1), .val (.int p2), .val (.int p3), .val (.int p4), .val (.int p5), .val (.int p6), .val (.int kn), .val (.ref b3), .unset, .unset] [(.int p5), (.int (3 : Int32)), (.ref b3)])) _
    refine st31.trans ?_
    show Steps p.tables e below (T31.setTop (mkF m 46 #[.val (.int p1), .val (.int p2), .val (.int p3), .val (.int p4), .val (.int p5), .val (.int p6), .val (.int kn), .val (.ref b3), .unset, .unset] [(.int z31), (.int (3 : Int32)), (.ref b3)])) _
    refine st35 _ ?_
    refine st38 _ ?_
    show Steps p.tables e below (T35.setTop (mkF m 52 #[.val (.int p1), .val (.int p2), .val (.int p3), .val (.int p4), .val (.int p5), .val (.int p6), .val (.int kn), .val (.ref b3), .unset, .unset] [(.int p6), (.int (4 : Int32)), (.ref b3)])) _
    refine st39.trans ?_
    show Steps p.tables e below (T39.setTop (mkF m 55 #[.val (.int p1), .val (.int p2), .val (.int p3), .val (.int p4), .val (.int p5), .val (.int p6), .val (.int kn), .val (.ref b3), .unset, .unset] [(.int z39), (.int (4 : Int32)), (.ref b3)])) _
    refine st43 _ ?_
    refine st92 _ ?_
    refine st93 _ ?_
    show Steps p.tables e below (T43.setTop (mkF m 61 #[.val (.int p1), .val (.int p2), .val (.int p3), .val (.int p4), .val (.int p5), .val (.int p6), .val (.int kn), .val (.ref b3), .unset, .unset] [])) _
    rw [hc58_91]
    show Steps p.tables e below (T43.setTop (mkF m 61 #[.val (.int p1), .val (.int p2), .val (.int p3), .val (.int p4), .val (.int p5), .val (.int p6), .val (.int (0 : Int32)), .val (.ref b3), .unset, .unset] [])) _
    refine st94 _ ?_
    refine st100 _ ?_
    show Steps p.tables e below (T94.setTop (mkF m 66 #[.val (.int p1), .val (.int p2), .val (.int p3), .val (.int p4), .val (.int p5), .val (.int p6), .val (.int (0 : Int32)), .val (.ref b3), .unset, .unset] [(.int (0 : Int32)), (.ref b94), (.ref b94)])) _
    refine st101 _ ?_
    show Steps p.tables e below (T101.setTop (mkF m 68 #[.val (.int p1), .val (.int p2), .val (.int p3), .val (.int p4), .val (.int p5), .val (.int p6), .val (.int (0 : Int32)), .val (.ref b3), .unset, .unset] [(.ref b101), (.ref b94), (.ref b94)])) _
    refine st108.trans ?_
    refine st113 _ ?_
    exact kt
  · -- pc 58: not kn = 0
    have st115 : ∀ tg, Steps p.tables e below (T43.setTop (mkF m 79 #[.val (.int p1), .val (.int p2), .val (.int p3), .val (.int p4), .val (.int p5), .val (.int p6), .val (.int kn), .val (.ref b3), .unset, .unset] [(.int (1 : Int32)), (.int kn)])) tg → Steps p.tables e below (T43.setTop (mkF m 58 #[.val (.int p1), .val (.int p2), .val (.int p3), .val (.int p4), .val (.int p5), .val (.int p6), .val (.int kn), .val (.ref b3), .unset, .unset] [(.int kn)])) tg := by
      intro tg kt
      refine XS.ifYes X43.here hx rfl (pc0 := 58) (pc' := 76) rfl (hb hby at_58) rfl (XT.i0_ne_t hc58_91) (by decide) (by decide) ?_
      refine XS.iload X43.here hx rfl (hb hby at_76) rfl ?_
      refine XS.iconst X43.here hx rfl (hb hby at_78) ?_
      exact kt
    by_cases hc79_114 : kn = (1 : Int32)
    · -- pc 79: kn = (1 : Int32)
      have st116 : ∀ tg, Steps p.tables e below (T43.setTop (mkF m 82 #[.val (.int p1), .val (.int p2), .val (.int p3), .val (.int p4), .val (.int p5), .val (.int p6), .val (.int kn), .val (.ref b3), .unset, .unset] [])) tg → Steps p.tables e below (T43.setTop (mkF m 79 #[.val (.int p1), .val (.int p2), .val (.int p3), .val (.int p4), .val (.int p5), .val (.int p6), .val (.int kn), .val (.ref b3), .unset, .unset] [(.int (1 : Int32)), (.int kn)])) tg := by
        intro tg kt
        refine XS.icmpNo X43.here hx rfl (hb hby at_79) rfl (XT.ii_ne_f hc79_114) ?_
        exact kt
      obtain ⟨T117, h117, X117, e117, E117, A117, D117, -, st117⟩ := newO X43 hx hZ39 hown39 (hw _ (List.mem_of_getElem? (i := 40) rfl)) (hw _ (List.mem_of_getElem? (i := 9) rfl)) (hw _ (List.mem_of_getElem? (i := 8) rfl)) e43 (g := (mkF m 82 #[.val (.int p1), .val (.int p2), .val (.int p3), .val (.int p4), .val (.int p5), .val (.int p6), .val (.int (1 : Int32)), .val (.ref b3), .unset, .unset] [])) rfl (hb hby at_82) (by decide) (by decide)
      obtain ⟨b117, gz117⟩ : ∃ z, z = h43.size := ⟨_, rfl⟩
      rw [← gz117] at A117 D117 st117
      have ne_b3_b117 : b3 ≠ b117 := Nat.ne_of_lt (Nat.lt_of_lt_of_le G45.lt (Nat.le_of_eq gz117.symm))
      have g_b117 : n0 ≤ b117 := Nat.le_trans Z43 (Nat.le_of_eq gz117.symm)
      have sz_b117 : h0.size ≤ b117 := Nat.le_trans K43.1 (Nat.le_of_eq gz117.symm)
      have G118 : Old Z n0 h117 := G44.ext E117
      have G119 : Arv Z h117 b3 k3 .char (5 : Int32) [(.int (nar .char z7)), (.int (nar .char z15)), (.int (nar .char z23)), (.int (nar .char z31)), (.int (nar .char z39))] (.int (0 : Int32)) := G45.ext E117
      have K117 : Keep h0 h117 [] := K43.ext E117
      have Z117 : n0 ≤ h117.size := Nat.le_trans Z43 E117.1
      have hks117 := Nat.le_trans hks43 E117.1
      have CH117 := CHr.ext E117 CH43.1
      have G120 : Exa Z h117 b117 "java/lang/String" := A117
      have G121 : Fld Z h117 b117 "java/lang/String" "value" "[B" .null := D117 (Or.inr (hw _ (List.mem_of_getElem? (i := 11) rfl))) (ty := (.array .byte)) (by decide)
      have G122 : Fld Z h117 b117 "java/lang/String" "coder" "B" (.int (0 : Int32)) := D117 (Or.inr (hw _ (List.mem_of_getElem? (i := 12) rfl))) (ty := .byte) (by decide)
      have st123 : ∀ tg, Steps p.tables e below (T117.setTop (mkF m 87 #[.val (.int p1), .val (.int p2), .val (.int p3), .val (.int p4), .val (.int p5), .val (.int p6), .val (.int (1 : Int32)), .val (.ref b3), .unset, .unset] [(.int (1 : Int32)), (.ref b117), (.ref b117)])) tg → Steps p.tables e below (T117.setTop (mkF m 85 #[.val (.int p1), .val (.int p2), .val (.int p3), .val (.int p4), .val (.int p5), .val (.int p6), .val (.int (1 : Int32)), .val (.ref b3), .unset, .unset] [(.ref b117)])) tg := by
        intro tg kt
        refine XS.dup X117.here hx rfl (hb hby at_85) rfl rfl ?_
        refine XS.iconst X117.here hx rfl (hb hby at_86) ?_
        exact kt
      obtain ⟨T124, h124, k124, X124, e124, E124, A124, st124⟩ := newP X117 hx hZ39 (hw _ (List.mem_of_getElem? (i := 1) rfl)) e117 (g := (mkF m 87 #[.val (.int p1), .val (.int p2), .val (.int p3), .val (.int p4), .val (.int p5), .val (.int p6), .val (.int (1 : Int32)), .val (.ref b3), .unset, .unset] [(.int (1 : Int32)), (.ref b117), (.ref b117)])) rfl (hb hby at_87) rfl (by decide) (cap := 1) (by decide) (by decide) (by decide) (by decide)
      obtain ⟨b124, gz124⟩ : ∃ z, z = h117.size := ⟨_, rfl⟩
      rw [← gz124] at A124 st124
      have ne_b3_b124 : b3 ≠ b124 := Nat.ne_of_lt (Nat.lt_of_lt_of_le G119.lt (Nat.le_of_eq gz124.symm))
      have ne_b117_b124 : b117 ≠ b124 := Nat.ne_of_lt (Nat.lt_of_lt_of_le G120.lt (Nat.le_of_eq gz124.symm))
      have g_b124 : n0 ≤ b124 := Nat.le_trans Z117 (Nat.le_of_eq gz124.symm)
      have sz_b124 : h0.size ≤ b124 := Nat.le_trans K117.1 (Nat.le_of_eq gz124.symm)
      have G125 : Old Z n0 h124 := G118.ext E124
      have G126 : Arv Z h124 b3 k3 .char (5 : Int32) [(.int (nar .char z7)), (.int (nar .char z15)), (.int (nar .char z23)), (.int (nar .char z31)), (.int (nar .char z39))] (.int (0 : Int32)) := G119.ext E124
      have G127 : Exa Z h124 b117 "java/lang/String" := G120.ext E124
      have G128 : Fld Z h124 b117 "java/lang/String" "value" "[B" .null := G121.ext E124
      have G129 : Fld Z h124 b117 "java/lang/String" "coder" "B" (.int (0 : Int32)) := G122.ext E124
      have K124 : Keep h0 h124 [] := K117.ext E124
      have Z124 : n0 ≤ h124.size := Nat.le_trans Z117 E124.1
      have hks124 := Nat.le_trans hks117 E124.1
      have CH124 := CHr.ext E124 CH117.1
      have G130 : Arv Z h124 b124 k124 .char (1 : Int32) [(.int (0 : Int32))] (.int (0 : Int32)) := (Arv.new A124 (by decide)).pad (pad_rep [] (.int (0 : Int32)) 1)
      have st132 : ∀ tg, Steps p.tables e below (T124.setTop (mkF m 94 #[.val (.int p1), .val (.int p2), .val (.int p3), .val (.int p4), .val (.int p5), .val (.int p6), .val (.int (1 : Int32)), .val (.ref b3), .unset, .unset] [(.int (0 : Int32)), (.ref b3), (.int (0 : Int32)), (.ref b124), (.ref b124), (.ref b117), (.ref b117)])) tg → Steps p.tables e below (T124.setTop (mkF m 89 #[.val (.int p1), .val (.int p2), .val (.int p3), .val (.int p4), .val (.int p5), .val (.int p6), .val (.int (1 : Int32)), .val (.ref b3), .unset, .unset] [(.ref b124), (.ref b117), (.ref b117)])) tg := by
        intro tg kt
        refine XS.dup X124.here hx rfl (hb hby at_89) rfl rfl ?_
        refine XS.iconst X124.here hx rfl (hb hby at_90) ?_
        refine XS.aload X124.here hx rfl (hb hby at_91) rfl rfl ?_
        refine XS.iconst X124.here hx rfl (hb hby at_93) ?_
        exact kt
      obtain ⟨cl131, Ar131, qa131, Sa131, Na131, Ha131, Ga131⟩ := id G126
      have hin131 : ¬ ((0 : Int32) < 0 ∨ cl131.slots.size ≤ ((0 : Int32)).toNatClampNeg) := inb_of Sa131 ⟨by decide, by decide⟩
      have hat131 : cl131.slots[((0 : Int32)).toNatClampNeg]? = some (.int (nar .char z7)) := Has.at Ha131 hin131 rfl
      have st133 : ∀ tg, Steps p.tables e below (T124.setTop (mkF m 95 #[.val (.int p1), .val (.int p2), .val (.int p3), .val (.int p4), .val (.int p5), .val (.int p6), .val (.int (1 : Int32)), .val (.ref b3), .unset, .unset] [(.int (nar .char z7)), (.int (0 : Int32)), (.ref b124), (.ref b124), (.ref b117), (.ref b117)])) tg → Steps p.tables e below (T124.setTop (mkF m 94 #[.val (.int p1), .val (.int p2), .val (.int p3), .val (.int p4), .val (.int p5), .val (.int p6), .val (.int (1 : Int32)), .val (.ref b3), .unset, .unset] [(.int (0 : Int32)), (.ref b3), (.int (0 : Int32)), (.ref b124), (.ref b124), (.ref b117), (.ref b117)])) tg := by
        intro tg kt
        refine X124.caload hx (j := (0 : Int32)) (v := (.int (nar .char z7))) (by rw [e124]; exact Ar131.1) (State.isArrayOf_alike hZ39.alike Ar131.2.1) Ar131.2.2 hin131 hat131 (g := (mkF m 94 #[.val (.int p1), .val (.int p2), .val (.int p3), .val (.int p4), .val (.int p5), .val (.int p6), .val (.int (1 : Int32)), .val (.ref b3), .unset, .unset] [(.int (0 : Int32)), (.ref b3), (.int (0 : Int32)), (.ref b124), (.ref b124), (.ref b117), (.ref b117)])) rfl rfl (hb hby at_94) _ ?_
        exact kt
      obtain ⟨cl134, Ar134, qa134, Sa134, Na134, Ha134, Ga134⟩ := id G130
      have hin134 : ¬ ((0 : Int32) < 0 ∨ cl134.slots.size ≤ ((0 : Int32)).toNatClampNeg) := inb_of Sa134 ⟨by decide, by decide⟩
      obtain ⟨T135, h135, X135, e135, W135, st135⟩ := stC X124 hx hZ39 e124 Ar134 (j := (0 : Int32)) hin134 (g := (mkF m 95 #[.val (.int p1), .val (.int p2), .val (.int p3), .val (.int p4), .val (.int p5), .val (.int p6), .val (.int (1 : Int32)), .val (.ref b3), .unset, .unset] [(.int (nar .char z7)), (.int (0 : Int32)), (.ref b124), (.ref b124), (.ref b117), (.ref b117)])) rfl rfl (hb hby at_95)
      have N135 := Fr.snoc X135 N43 g_b124
      have K135 : Keep h0 h135 [] := K124.wr W135 (Or.inr sz_b124)
      have Z135 : n0 ≤ h135.size := Nat.le_trans Z124 (Keep.of_wr W135).1
      have hks135 := Nat.le_trans hks124 (Keep.of_wr W135).1
      have CH135 := CHr.wr W135 (Safe.arr hZ39.alike Ar134 (by decide)) CH124.1
      have G136 : Old Z n0 h135 := G125.wr W135 g_b124
      have G137 : Arv Z h135 b3 k3 .char (5 : Int32) [(.int (nar .char z7)), (.int (nar .char z15)), (.int (nar .char z23)), (.int (nar .char z31)), (.int (nar .char z39))] (.int (0 : Int32)) := G126.other W135 ne_b3_b124
      have G138 : Exa Z h135 b117 "java/lang/String" := G127.wr W135
      have G139 : Fld Z h135 b117 "java/lang/String" "value" "[B" .null := G128.other W135 (Or.inl ne_b117_b124)
      have G140 : Fld Z h135 b117 "java/lang/String" "coder" "B" (.int (0 : Int32)) := G129.other W135 (Or.inl ne_b117_b124)
      have G141 : Arv Z h135 b124 k124 .char (1 : Int32) [(.int (nar .char (nar .char z7)))] (.int (0 : Int32)) := Arv.set Ar134 qa134 Sa134 Na134 Ha134 Ga134 (fits_nar_char _) W135 0 rfl (Nat.le_of_ble_eq_true rfl)
      obtain ⟨_, _, ⟨T142, L142, k142, n142⟩, -, X142, ⟨Lc142, hQ142, l142, y142, z142⟩, st142⟩ := X135.specialBack hx (y := (⟨"java/lang/String", "<init>", "([C)V"⟩ : MethodName)) rfl hown39 (mvT hZ39 (hw _ (List.mem_of_getElem? (i := 41) rfl))) (mvT hZ39 (hw _ (List.mem_of_getElem? (i := 42) rfl))) (mvT hZ39 (hw _ (List.mem_of_getElem? (i := 43) rfl))) (by decide) (backOf (W := 1) (rm7 l Z a0 hw [] b117 b124 1 CF wc h135 n0 Z135 G136 S_c hwc S_a S_h S_l (by decide) (by decide) (fun t _ => hCc t) G138 G139 G140 (ArF.of_arv G141 (by decide) (fun i hi => match i, hi with | 0, _ => (by rw [hC0]; exact congrArg Value.int (own_nn2 _)) | k + 1, hk => absurd hk (by omega))) g_b117 (Ne.symm ne_b117_b124)) hZ39 (hw _ (List.mem_of_getElem? (i := 43) rfl)) (hw _ (List.mem_of_getElem? (i := 8) rfl)) (by decide) (by decide)) (g := (mkF m 96 #[.val (.int p1), .val (.int p2), .val (.int p3), .val (.int p4), .val (.int p5), .val (.int p6), .val (.int (1 : Int32)), .val (.ref b3), .unset, .unset] [(.ref b124), (.ref b117), (.ref b117)])) rfl (by rw [hml]; rfl) (Steps.refl _) (a := b117) (argsL := [(.ref b124)]) (rest := [(.ref b117)]) (lenOf pd_26 rfl) rfl (by show 2 * 0 + _ ≤ _; exact Nat.le_of_eq rfl) (hb hby at_96) (fun _ _ => ⟨rfl, e135, (by decide : 13 + 2 ≤ _), (by decide : 470 + 15 ≤ _)⟩)
      dsimp only [Pt.U, Pt.locs, Pt.cells, Pt.slots] at X142 l142 y142 z142 st142 hQ142
      subst l142 y142 z142
      obtain ⟨rfl, N142q, K142q, S142q⟩ := hQ142
      have N142 := Fr.app N135 N142q
      have G143 : Old Z n0 T142.heap := G136.keep K142q (allS g_b117 (all0))
      have G144 : Arv Z T142.heap b3 k3 .char (5 : Int32) [(.int (nar .char z7)), (.int (nar .char z15)), (.int (nar .char z23)), (.int (nar .char z31)), (.int (nar .char z39))] (.int (0 : Int32)) := G137.keep K142q (ninS ne_b3_b117 (nin0))
      have G145 : Exa Z T142.heap b117 "java/lang/String" := G138.keep K142q
      have G146 : Arv Z T142.heap b124 k124 .char (1 : Int32) [(.int (nar .char (nar .char z7)))] (.int (0 : Int32)) := G141.keep K142q (ninS (Ne.symm ne_b117_b124) (nin0))
      have K142 : Keep h0 T142.heap [] := K135.trans K142q (allS (Or.inr sz_b117) all0)
      have Z142 : n0 ≤ T142.heap.size := Nat.le_trans Z135 K142q.1
      have hks142 := Nat.le_trans hks135 K142q.1
      have st147 : ∀ tg, Steps p.tables e below (T142.setTop (mkF m 277 #[.val (.int p1), .val (.int p2), .val (.int p3), .val (.int p4), .val (.int p5), .val (.int p6), .val (.int (1 : Int32)), .val (.ref b3), .val (.ref b117), .unset] [])) tg → Steps p.tables e below (T142.setTop (mkF m 99 #[.val (.int p1), .val (.int p2), .val (.int p3), .val (.int p4), .val (.int p5), .val (.int p6), .val (.int (1 : Int32)), .val (.ref b3), .unset, .unset] [(.ref b117)])) tg := by
        intro tg kt
        refine XS.astore X142.here hx rfl (hb hby at_99) rfl rfl (l' := #[.val (.int p1), .val (.int p2), .val (.int p3), .val (.int p4), .val (.int p5), .val (.int p6), .val (.int (1 : Int32)), .val (.ref b3), .val (.ref b117), .unset]) rfl ?_
        refine XS.goto X142.here hx rfl (pc0 := 101) (pc' := 277) rfl (hb hby at_101) (by decide) (by decide) ?_
        exact kt
      refine tail 1 b117 _ _ _ _ (by decide) S142q (ArF.of_arv G144 (by decide) (fun i hi => match i, hi with | 0, _ => congrArg Value.int hC0.symm | 1, _ => congrArg Value.int hC1.symm | 2, _ => congrArg Value.int hC2.symm | 3, _ => congrArg Value.int hC3.symm | 4, _ => congrArg Value.int hC4.symm | k + 5, hk => absurd hk (by omega))) G143 Z142 hZ39 hown39 hS39 hks142 N142 (X142.more (by decide) (by decide)) (fun tg kt => ?_)
      refine pre0 _ ?_
      refine st1 _ ?_
      refine st2 _ ?_
      show Steps p.tables e below (s₁.setTop (mkF m 10 #[.val (.int p1), .val (.int p2), .val (.int p3), .val (.int p4), .val (.int p5), .val (.int p6), .val (.int kn), .unset, .unset, .unset] [(.int (5 : Int32))])) _
      refine st3 _ ?_
      refine st6 _ ?_
      show Steps p.tables e below (T3.setTop (mkF m 18 #[.val (.int p1), .val (.int p2), .val (.int p3), .val (.int p4), .val (.int p5), .val (.int p6), .val (.int kn), .val (.ref b3), .unset, .unset] [(.int p2), (.int (0 : Int32)), (.ref b3)])) _
      refine st7.trans ?_
      show Steps p.tables e below (T7.setTop (mkF m 21 #[.val (.int p1), .val (.int p2), .val (.int p3), .val (.int p4), .val (.int p5), .val (.int p6), .val (.int kn), .val (.ref b3), .unset, .unset] [(.int z7), (.int (0 : Int32)), (.ref b3)])) _
      refine st11 _ ?_
      refine st14 _ ?_
      show Steps p.tables e below (T11.setTop (mkF m 26 #[.val (.int p1), .val (.int p2), .val (.int p3), .val (.int p4), .val (.int p5), .val (.int p6), .val (.int kn), .val (.ref b3), .unset, .unset] [(.int p3), (.int (1 : Int32)), (.ref b3)])) _
      refine st15.trans ?_
      show Steps p.tables e below (T15.setTop (mkF m 29 #[.val (.int p1), .val (.int p2), .val (.int p3), .val (.int p4), .val (.int p5), .val (.int p6), .val (.int kn), .val (.ref b3), .unset, .unset] [(.int z15), (.int (1 : Int32)), (.ref b3)])) _
      refine st19 _ ?_
      refine st22 _ ?_
      show Steps p.tables e below (T19.setTop (mkF m 34 #[.val (.int p1), .val (.int p2), .val (.int p3), .val (.int p4), .val (.int p5), .val (.int p6), .val (.int kn), .val (.ref b3), .unset, .unset] [(.int p4), (.int (2 : Int32)), (.ref b3)])) _
      refine st23.trans ?_
      show Steps p.tables e below (T23.setTop (mkF m 37 #[.val (.int p1), .val (.int p2), .val (.int p3), .val (.int p4), .val (.int p5), .val (.int p6), .val (.int kn), .val (.ref b3), .unset, .unset] [(.int z23), (.int (2 : Int32)), (.ref b3)])) _
      refine st27 _ ?_
      refine st30 _ ?_
      show Steps p.tables e below (T27.setTop (mkF m 43 #[.val (.int p1), .val (.int p2), .val (.int p3), .val (.int p4), .val (.int p5), .val (.int p6), .val (.int kn), .val (.ref b3), .unset, .unset] [(.int p5), (.int (3 : Int32)), (.ref b3)])) _
      refine st31.trans ?_
      show Steps p.tables e below (T31.setTop (mkF m 46 #[.val (.int p1), .val (.int p2), .val (.int p3), .val (.int p4), .val (.int p5), .val (.int p6), .val (.int kn), .val (.ref b3), .unset, .unset] [(.int z31), (.int (3 : Int32)), (.ref b3)])) _
      refine st35 _ ?_
      refine st38 _ ?_
      show Steps p.tables e below (T35.setTop (mkF m 52 #[.val (.int p1), .val (.int p2), .val (.int p3), .val (.int p4), .val (.int p5), .val (.int p6), .val (.int kn), .val (.ref b3), .unset, .unset] [(.int p6), (.int (4 : Int32)), (.ref b3)])) _
      refine st39.trans ?_
      show Steps p.tables e below (T39.setTop (mkF m 55 #[.val (.int p1), .val (.int p2), .val (.int p3), .val (.int p4), .val (.int p5), .val (.int p6), .val (.int kn), .val (.ref b3), .unset, .unset] [(.int z39), (.int (4 : Int32)), (.ref b3)])) _
      refine st43 _ ?_
      refine st92 _ ?_
      refine st115 _ ?_
      refine st116 _ ?_
      show Steps p.tables e below (T43.setTop (mkF m 82 #[.val (.int p1), .val (.int p2), .val (.int p3), .val (.int p4), .val (.int p5), .val (.int p6), .val (.int kn), .val (.ref b3), .unset, .unset] [])) _
      rw [hc79_114]
      show Steps p.tables e below (T43.setTop (mkF m 82 #[.val (.int p1), .val (.int p2), .val (.int p3), .val (.int p4), .val (.int p5), .val (.int p6), .val (.int (1 : Int32)), .val (.ref b3), .unset, .unset] [])) _
      refine st117 _ ?_
      refine st123 _ ?_
      show Steps p.tables e below (T117.setTop (mkF m 87 #[.val (.int p1), .val (.int p2), .val (.int p3), .val (.int p4), .val (.int p5), .val (.int p6), .val (.int (1 : Int32)), .val (.ref b3), .unset, .unset] [(.int (1 : Int32)), (.ref b117), (.ref b117)])) _
      refine st124 _ ?_
      refine st132 _ ?_
      refine st133 _ ?_
      show Steps p.tables e below (T124.setTop (mkF m 95 #[.val (.int p1), .val (.int p2), .val (.int p3), .val (.int p4), .val (.int p5), .val (.int p6), .val (.int (1 : Int32)), .val (.ref b3), .unset, .unset] [(.int (nar .char z7)), (.int (0 : Int32)), (.ref b124), (.ref b124), (.ref b117), (.ref b117)])) _
      refine st135 _ ?_
      show Steps p.tables e below (T135.setTop (mkF m 96 #[.val (.int p1), .val (.int p2), .val (.int p3), .val (.int p4), .val (.int p5), .val (.int p6), .val (.int (1 : Int32)), .val (.ref b3), .unset, .unset] [(.ref b124), (.ref b117), (.ref b117)])) _
      refine st142.trans ?_
      refine st147 _ ?_
      exact kt
    · -- pc 79: not kn = (1 : Int32)
      have st149 : ∀ tg, Steps p.tables e below (T43.setTop (mkF m 107 #[.val (.int p1), .val (.int p2), .val (.int p3), .val (.int p4), .val (.int p5), .val (.int p6), .val (.int kn), .val (.ref b3), .unset, .unset] [(.int (2 : Int32)), (.int kn)])) tg → Steps p.tables e below (T43.setTop (mkF m 79 #[.val (.int p1), .val (.int p2), .val (.int p3), .val (.int p4), .val (.int p5), .val (.int p6), .val (.int kn), .val (.ref b3), .unset, .unset] [(.int (1 : Int32)), (.int kn)])) tg := by
        intro tg kt
        refine XS.icmpYes X43.here hx rfl (pc0 := 79) (pc' := 104) rfl (hb hby at_79) rfl (XT.ii_ne_t hc79_114) (by decide) (by decide) ?_
        refine XS.iload X43.here hx rfl (hb hby at_104) rfl ?_
        refine XS.iconst X43.here hx rfl (hb hby at_106) ?_
        exact kt
      by_cases hc107_148 : kn = (2 : Int32)
      · -- pc 107: kn = (2 : Int32)
        have st150 : ∀ tg, Steps p.tables e below (T43.setTop (mkF m 110 #[.val (.int p1), .val (.int p2), .val (.int p3), .val (.int p4), .val (.int p5), .val (.int p6), .val (.int kn), .val (.ref b3), .unset, .unset] [])) tg → Steps p.tables e below (T43.setTop (mkF m 107 #[.val (.int p1), .val (.int p2), .val (.int p3), .val (.int p4), .val (.int p5), .val (.int p6), .val (.int kn), .val (.ref b3), .unset, .unset] [(.int (2 : Int32)), (.int kn)])) tg := by
          intro tg kt
          refine XS.icmpNo X43.here hx rfl (hb hby at_107) rfl (XT.ii_ne_f hc107_148) ?_
          exact kt
        obtain ⟨T151, h151, X151, e151, E151, A151, D151, -, st151⟩ := newO X43 hx hZ39 hown39 (hw _ (List.mem_of_getElem? (i := 40) rfl)) (hw _ (List.mem_of_getElem? (i := 9) rfl)) (hw _ (List.mem_of_getElem? (i := 8) rfl)) e43 (g := (mkF m 110 #[.val (.int p1), .val (.int p2), .val (.int p3), .val (.int p4), .val (.int p5), .val (.int p6), .val (.int (2 : Int32)), .val (.ref b3), .unset, .unset] [])) rfl (hb hby at_110) (by decide) (by decide)
        obtain ⟨b151, gz151⟩ : ∃ z, z = h43.size := ⟨_, rfl⟩
        rw [← gz151] at A151 D151 st151
        have ne_b3_b151 : b3 ≠ b151 := Nat.ne_of_lt (Nat.lt_of_lt_of_le G45.lt (Nat.le_of_eq gz151.symm))
        have g_b151 : n0 ≤ b151 := Nat.le_trans Z43 (Nat.le_of_eq gz151.symm)
        have sz_b151 : h0.size ≤ b151 := Nat.le_trans K43.1 (Nat.le_of_eq gz151.symm)
        have G152 : Old Z n0 h151 := G44.ext E151
        have G153 : Arv Z h151 b3 k3 .char (5 : Int32) [(.int (nar .char z7)), (.int (nar .char z15)), (.int (nar .char z23)), (.int (nar .char z31)), (.int (nar .char z39))] (.int (0 : Int32)) := G45.ext E151
        have K151 : Keep h0 h151 [] := K43.ext E151
        have Z151 : n0 ≤ h151.size := Nat.le_trans Z43 E151.1
        have hks151 := Nat.le_trans hks43 E151.1
        have CH151 := CHr.ext E151 CH43.1
        have G154 : Exa Z h151 b151 "java/lang/String" := A151
        have G155 : Fld Z h151 b151 "java/lang/String" "value" "[B" .null := D151 (Or.inr (hw _ (List.mem_of_getElem? (i := 11) rfl))) (ty := (.array .byte)) (by decide)
        have G156 : Fld Z h151 b151 "java/lang/String" "coder" "B" (.int (0 : Int32)) := D151 (Or.inr (hw _ (List.mem_of_getElem? (i := 12) rfl))) (ty := .byte) (by decide)
        have st157 : ∀ tg, Steps p.tables e below (T151.setTop (mkF m 115 #[.val (.int p1), .val (.int p2), .val (.int p3), .val (.int p4), .val (.int p5), .val (.int p6), .val (.int (2 : Int32)), .val (.ref b3), .unset, .unset] [(.int (2 : Int32)), (.ref b151), (.ref b151)])) tg → Steps p.tables e below (T151.setTop (mkF m 113 #[.val (.int p1), .val (.int p2), .val (.int p3), .val (.int p4), .val (.int p5), .val (.int p6), .val (.int (2 : Int32)), .val (.ref b3), .unset, .unset] [(.ref b151)])) tg := by
          intro tg kt
          refine XS.dup X151.here hx rfl (hb hby at_113) rfl rfl ?_
          refine XS.iconst X151.here hx rfl (hb hby at_114) ?_
          exact kt
        obtain ⟨T158, h158, k158, X158, e158, E158, A158, st158⟩ := newP X151 hx hZ39 (hw _ (List.mem_of_getElem? (i := 1) rfl)) e151 (g := (mkF m 115 #[.val (.int p1), .val (.int p2), .val (.int p3), .val (.int p4), .val (.int p5), .val (.int p6), .val (.int (2 : Int32)), .val (.ref b3), .unset, .unset] [(.int (2 : Int32)), (.ref b151), (.ref b151)])) rfl (hb hby at_115) rfl (by decide) (cap := 2) (by decide) (by decide) (by decide) (by decide)
        obtain ⟨b158, gz158⟩ : ∃ z, z = h151.size := ⟨_, rfl⟩
        rw [← gz158] at A158 st158
        have ne_b3_b158 : b3 ≠ b158 := Nat.ne_of_lt (Nat.lt_of_lt_of_le G153.lt (Nat.le_of_eq gz158.symm))
        have ne_b151_b158 : b151 ≠ b158 := Nat.ne_of_lt (Nat.lt_of_lt_of_le G154.lt (Nat.le_of_eq gz158.symm))
        have g_b158 : n0 ≤ b158 := Nat.le_trans Z151 (Nat.le_of_eq gz158.symm)
        have sz_b158 : h0.size ≤ b158 := Nat.le_trans K151.1 (Nat.le_of_eq gz158.symm)
        have G159 : Old Z n0 h158 := G152.ext E158
        have G160 : Arv Z h158 b3 k3 .char (5 : Int32) [(.int (nar .char z7)), (.int (nar .char z15)), (.int (nar .char z23)), (.int (nar .char z31)), (.int (nar .char z39))] (.int (0 : Int32)) := G153.ext E158
        have G161 : Exa Z h158 b151 "java/lang/String" := G154.ext E158
        have G162 : Fld Z h158 b151 "java/lang/String" "value" "[B" .null := G155.ext E158
        have G163 : Fld Z h158 b151 "java/lang/String" "coder" "B" (.int (0 : Int32)) := G156.ext E158
        have K158 : Keep h0 h158 [] := K151.ext E158
        have Z158 : n0 ≤ h158.size := Nat.le_trans Z151 E158.1
        have hks158 := Nat.le_trans hks151 E158.1
        have CH158 := CHr.ext E158 CH151.1
        have G164 : Arv Z h158 b158 k158 .char (2 : Int32) [(.int (0 : Int32)), (.int (0 : Int32))] (.int (0 : Int32)) := (Arv.new A158 (by decide)).pad (pad_rep [] (.int (0 : Int32)) 2)
        have st166 : ∀ tg, Steps p.tables e below (T158.setTop (mkF m 122 #[.val (.int p1), .val (.int p2), .val (.int p3), .val (.int p4), .val (.int p5), .val (.int p6), .val (.int (2 : Int32)), .val (.ref b3), .unset, .unset] [(.int (0 : Int32)), (.ref b3), (.int (0 : Int32)), (.ref b158), (.ref b158), (.ref b151), (.ref b151)])) tg → Steps p.tables e below (T158.setTop (mkF m 117 #[.val (.int p1), .val (.int p2), .val (.int p3), .val (.int p4), .val (.int p5), .val (.int p6), .val (.int (2 : Int32)), .val (.ref b3), .unset, .unset] [(.ref b158), (.ref b151), (.ref b151)])) tg := by
          intro tg kt
          refine XS.dup X158.here hx rfl (hb hby at_117) rfl rfl ?_
          refine XS.iconst X158.here hx rfl (hb hby at_118) ?_
          refine XS.aload X158.here hx rfl (hb hby at_119) rfl rfl ?_
          refine XS.iconst X158.here hx rfl (hb hby at_121) ?_
          exact kt
        obtain ⟨cl165, Ar165, qa165, Sa165, Na165, Ha165, Ga165⟩ := id G160
        have hin165 : ¬ ((0 : Int32) < 0 ∨ cl165.slots.size ≤ ((0 : Int32)).toNatClampNeg) := inb_of Sa165 ⟨by decide, by decide⟩
        have hat165 : cl165.slots[((0 : Int32)).toNatClampNeg]? = some (.int (nar .char z7)) := Has.at Ha165 hin165 rfl
        have st167 : ∀ tg, Steps p.tables e below (T158.setTop (mkF m 123 #[.val (.int p1), .val (.int p2), .val (.int p3), .val (.int p4), .val (.int p5), .val (.int p6), .val (.int (2 : Int32)), .val (.ref b3), .unset, .unset] [(.int (nar .char z7)), (.int (0 : Int32)), (.ref b158), (.ref b158), (.ref b151), (.ref b151)])) tg → Steps p.tables e below (T158.setTop (mkF m 122 #[.val (.int p1), .val (.int p2), .val (.int p3), .val (.int p4), .val (.int p5), .val (.int p6), .val (.int (2 : Int32)), .val (.ref b3), .unset, .unset] [(.int (0 : Int32)), (.ref b3), (.int (0 : Int32)), (.ref b158), (.ref b158), (.ref b151), (.ref b151)])) tg := by
          intro tg kt
          refine X158.caload hx (j := (0 : Int32)) (v := (.int (nar .char z7))) (by rw [e158]; exact Ar165.1) (State.isArrayOf_alike hZ39.alike Ar165.2.1) Ar165.2.2 hin165 hat165 (g := (mkF m 122 #[.val (.int p1), .val (.int p2), .val (.int p3), .val (.int p4), .val (.int p5), .val (.int p6), .val (.int (2 : Int32)), .val (.ref b3), .unset, .unset] [(.int (0 : Int32)), (.ref b3), (.int (0 : Int32)), (.ref b158), (.ref b158), (.ref b151), (.ref b151)])) rfl rfl (hb hby at_122) _ ?_
          exact kt
        obtain ⟨cl168, Ar168, qa168, Sa168, Na168, Ha168, Ga168⟩ := id G164
        have hin168 : ¬ ((0 : Int32) < 0 ∨ cl168.slots.size ≤ ((0 : Int32)).toNatClampNeg) := inb_of Sa168 ⟨by decide, by decide⟩
        obtain ⟨T169, h169, X169, e169, W169, st169⟩ := stC X158 hx hZ39 e158 Ar168 (j := (0 : Int32)) hin168 (g := (mkF m 123 #[.val (.int p1), .val (.int p2), .val (.int p3), .val (.int p4), .val (.int p5), .val (.int p6), .val (.int (2 : Int32)), .val (.ref b3), .unset, .unset] [(.int (nar .char z7)), (.int (0 : Int32)), (.ref b158), (.ref b158), (.ref b151), (.ref b151)])) rfl rfl (hb hby at_123)
        have N169 := Fr.snoc X169 N43 g_b158
        have K169 : Keep h0 h169 [] := K158.wr W169 (Or.inr sz_b158)
        have Z169 : n0 ≤ h169.size := Nat.le_trans Z158 (Keep.of_wr W169).1
        have hks169 := Nat.le_trans hks158 (Keep.of_wr W169).1
        have CH169 := CHr.wr W169 (Safe.arr hZ39.alike Ar168 (by decide)) CH158.1
        have G170 : Old Z n0 h169 := G159.wr W169 g_b158
        have G171 : Arv Z h169 b3 k3 .char (5 : Int32) [(.int (nar .char z7)), (.int (nar .char z15)), (.int (nar .char z23)), (.int (nar .char z31)), (.int (nar .char z39))] (.int (0 : Int32)) := G160.other W169 ne_b3_b158
        have G172 : Exa Z h169 b151 "java/lang/String" := G161.wr W169
        have G173 : Fld Z h169 b151 "java/lang/String" "value" "[B" .null := G162.other W169 (Or.inl ne_b151_b158)
        have G174 : Fld Z h169 b151 "java/lang/String" "coder" "B" (.int (0 : Int32)) := G163.other W169 (Or.inl ne_b151_b158)
        have G175 : Arv Z h169 b158 k158 .char (2 : Int32) [(.int (nar .char (nar .char z7))), (.int (0 : Int32))] (.int (0 : Int32)) := Arv.set Ar168 qa168 Sa168 Na168 Ha168 Ga168 (fits_nar_char _) W169 0 rfl (Nat.le_of_ble_eq_true rfl)
        have st177 : ∀ tg, Steps p.tables e below (T169.setTop (mkF m 129 #[.val (.int p1), .val (.int p2), .val (.int p3), .val (.int p4), .val (.int p5), .val (.int p6), .val (.int (2 : Int32)), .val (.ref b3), .unset, .unset] [(.int (1 : Int32)), (.ref b3), (.int (1 : Int32)), (.ref b158), (.ref b158), (.ref b151), (.ref b151)])) tg → Steps p.tables e below (T169.setTop (mkF m 124 #[.val (.int p1), .val (.int p2), .val (.int p3), .val (.int p4), .val (.int p5), .val (.int p6), .val (.int (2 : Int32)), .val (.ref b3), .unset, .unset] [(.ref b158), (.ref b151), (.ref b151)])) tg := by
          intro tg kt
          refine XS.dup X169.here hx rfl (hb hby at_124) rfl rfl ?_
          refine XS.iconst X169.here hx rfl (hb hby at_125) ?_
          refine XS.aload X169.here hx rfl (hb hby at_126) rfl rfl ?_
          refine XS.iconst X169.here hx rfl (hb hby at_128) ?_
          exact kt
        obtain ⟨cl176, Ar176, qa176, Sa176, Na176, Ha176, Ga176⟩ := id G171
        have hin176 : ¬ ((1 : Int32) < 0 ∨ cl176.slots.size ≤ ((1 : Int32)).toNatClampNeg) := inb_of Sa176 ⟨by decide, by decide⟩
        have hat176 : cl176.slots[((1 : Int32)).toNatClampNeg]? = some (.int (nar .char z15)) := Has.at Ha176 hin176 rfl
        have st178 : ∀ tg, Steps p.tables e below (T169.setTop (mkF m 130 #[.val (.int p1), .val (.int p2), .val (.int p3), .val (.int p4), .val (.int p5), .val (.int p6), .val (.int (2 : Int32)), .val (.ref b3), .unset, .unset] [(.int (nar .char z15)), (.int (1 : Int32)), (.ref b158), (.ref b158), (.ref b151), (.ref b151)])) tg → Steps p.tables e below (T169.setTop (mkF m 129 #[.val (.int p1), .val (.int p2), .val (.int p3), .val (.int p4), .val (.int p5), .val (.int p6), .val (.int (2 : Int32)), .val (.ref b3), .unset, .unset] [(.int (1 : Int32)), (.ref b3), (.int (1 : Int32)), (.ref b158), (.ref b158), (.ref b151), (.ref b151)])) tg := by
          intro tg kt
          refine X169.caload hx (j := (1 : Int32)) (v := (.int (nar .char z15))) (by rw [e169]; exact Ar176.1) (State.isArrayOf_alike hZ39.alike Ar176.2.1) Ar176.2.2 hin176 hat176 (g := (mkF m 129 #[.val (.int p1), .val (.int p2), .val (.int p3), .val (.int p4), .val (.int p5), .val (.int p6), .val (.int (2 : Int32)), .val (.ref b3), .unset, .unset] [(.int (1 : Int32)), (.ref b3), (.int (1 : Int32)), (.ref b158), (.ref b158), (.ref b151), (.ref b151)])) rfl rfl (hb hby at_129) _ ?_
          exact kt
        obtain ⟨cl179, Ar179, qa179, Sa179, Na179, Ha179, Ga179⟩ := id G175
        have hin179 : ¬ ((1 : Int32) < 0 ∨ cl179.slots.size ≤ ((1 : Int32)).toNatClampNeg) := inb_of Sa179 ⟨by decide, by decide⟩
        obtain ⟨T180, h180, X180, e180, W180, st180⟩ := stC X169 hx hZ39 e169 Ar179 (j := (1 : Int32)) hin179 (g := (mkF m 130 #[.val (.int p1), .val (.int p2), .val (.int p3), .val (.int p4), .val (.int p5), .val (.int p6), .val (.int (2 : Int32)), .val (.ref b3), .unset, .unset] [(.int (nar .char z15)), (.int (1 : Int32)), (.ref b158), (.ref b158), (.ref b151), (.ref b151)])) rfl rfl (hb hby at_130)
        have N180 := Fr.snoc X180 N169 g_b158
        have K180 : Keep h0 h180 [] := K169.wr W180 (Or.inr sz_b158)
        have Z180 : n0 ≤ h180.size := Nat.le_trans Z169 (Keep.of_wr W180).1
        have hks180 := Nat.le_trans hks169 (Keep.of_wr W180).1
        have CH180 := CHr.wr W180 (Safe.arr hZ39.alike Ar179 (by decide)) CH169.1
        have G181 : Old Z n0 h180 := G170.wr W180 g_b158
        have G182 : Arv Z h180 b3 k3 .char (5 : Int32) [(.int (nar .char z7)), (.int (nar .char z15)), (.int (nar .char z23)), (.int (nar .char z31)), (.int (nar .char z39))] (.int (0 : Int32)) := G171.other W180 ne_b3_b158
        have G183 : Exa Z h180 b151 "java/lang/String" := G172.wr W180
        have G184 : Fld Z h180 b151 "java/lang/String" "value" "[B" .null := G173.other W180 (Or.inl ne_b151_b158)
        have G185 : Fld Z h180 b151 "java/lang/String" "coder" "B" (.int (0 : Int32)) := G174.other W180 (Or.inl ne_b151_b158)
        have G186 : Arv Z h180 b158 k158 .char (2 : Int32) [(.int (nar .char (nar .char z7))), (.int (nar .char (nar .char z15)))] (.int (0 : Int32)) := Arv.set Ar179 qa179 Sa179 Na179 Ha179 Ga179 (fits_nar_char _) W180 1 rfl (Nat.le_of_ble_eq_true rfl)
        obtain ⟨_, _, ⟨T187, L187, k187, n187⟩, -, X187, ⟨Lc187, hQ187, l187, y187, z187⟩, st187⟩ := X180.specialBack hx (y := (⟨"java/lang/String", "<init>", "([C)V"⟩ : MethodName)) rfl hown39 (mvT hZ39 (hw _ (List.mem_of_getElem? (i := 41) rfl))) (mvT hZ39 (hw _ (List.mem_of_getElem? (i := 42) rfl))) (mvT hZ39 (hw _ (List.mem_of_getElem? (i := 43) rfl))) (by decide) (backOf (W := 1) (rm7 l Z a0 hw [] b151 b158 2 CF wc h180 n0 Z180 G181 S_c hwc S_a S_h S_l (by decide) (by decide) (fun t _ => hCc t) G183 G184 G185 (ArF.of_arv G186 (by decide) (fun i hi => match i, hi with | 0, _ => (by rw [hC0]; exact congrArg Value.int (own_nn2 _)) | 1, _ => (by rw [hC1]; exact congrArg Value.int (own_nn2 _)) | k + 2, hk => absurd hk (by omega))) g_b151 (Ne.symm ne_b151_b158)) hZ39 (hw _ (List.mem_of_getElem? (i := 43) rfl)) (hw _ (List.mem_of_getElem? (i := 8) rfl)) (by decide) (by decide)) (g := (mkF m 131 #[.val (.int p1), .val (.int p2), .val (.int p3), .val (.int p4), .val (.int p5), .val (.int p6), .val (.int (2 : Int32)), .val (.ref b3), .unset, .unset] [(.ref b158), (.ref b151), (.ref b151)])) rfl (by rw [hml]; rfl) (Steps.refl _) (a := b151) (argsL := [(.ref b158)]) (rest := [(.ref b151)]) (lenOf pd_26 rfl) rfl (by show 2 * 0 + _ ≤ _; exact Nat.le_of_eq rfl) (hb hby at_131) (fun _ _ => ⟨rfl, e180, (by decide : 13 + 2 ≤ _), (by decide : 471 + 15 ≤ _)⟩)
        dsimp only [Pt.U, Pt.locs, Pt.cells, Pt.slots] at X187 l187 y187 z187 st187 hQ187
        subst l187 y187 z187
        obtain ⟨rfl, N187q, K187q, S187q⟩ := hQ187
        have N187 := Fr.app N180 N187q
        have G188 : Old Z n0 T187.heap := G181.keep K187q (allS g_b151 (all0))
        have G189 : Arv Z T187.heap b3 k3 .char (5 : Int32) [(.int (nar .char z7)), (.int (nar .char z15)), (.int (nar .char z23)), (.int (nar .char z31)), (.int (nar .char z39))] (.int (0 : Int32)) := G182.keep K187q (ninS ne_b3_b151 (nin0))
        have G190 : Exa Z T187.heap b151 "java/lang/String" := G183.keep K187q
        have G191 : Arv Z T187.heap b158 k158 .char (2 : Int32) [(.int (nar .char (nar .char z7))), (.int (nar .char (nar .char z15)))] (.int (0 : Int32)) := G186.keep K187q (ninS (Ne.symm ne_b151_b158) (nin0))
        have K187 : Keep h0 T187.heap [] := K180.trans K187q (allS (Or.inr sz_b151) all0)
        have Z187 : n0 ≤ T187.heap.size := Nat.le_trans Z180 K187q.1
        have hks187 := Nat.le_trans hks180 K187q.1
        have st192 : ∀ tg, Steps p.tables e below (T187.setTop (mkF m 277 #[.val (.int p1), .val (.int p2), .val (.int p3), .val (.int p4), .val (.int p5), .val (.int p6), .val (.int (2 : Int32)), .val (.ref b3), .val (.ref b151), .unset] [])) tg → Steps p.tables e below (T187.setTop (mkF m 134 #[.val (.int p1), .val (.int p2), .val (.int p3), .val (.int p4), .val (.int p5), .val (.int p6), .val (.int (2 : Int32)), .val (.ref b3), .unset, .unset] [(.ref b151)])) tg := by
          intro tg kt
          refine XS.astore X187.here hx rfl (hb hby at_134) rfl rfl (l' := #[.val (.int p1), .val (.int p2), .val (.int p3), .val (.int p4), .val (.int p5), .val (.int p6), .val (.int (2 : Int32)), .val (.ref b3), .val (.ref b151), .unset]) rfl ?_
          refine XS.goto X187.here hx rfl (pc0 := 136) (pc' := 277) rfl (hb hby at_136) (by decide) (by decide) ?_
          exact kt
        refine tail 2 b151 _ _ _ _ (by decide) S187q (ArF.of_arv G189 (by decide) (fun i hi => match i, hi with | 0, _ => congrArg Value.int hC0.symm | 1, _ => congrArg Value.int hC1.symm | 2, _ => congrArg Value.int hC2.symm | 3, _ => congrArg Value.int hC3.symm | 4, _ => congrArg Value.int hC4.symm | k + 5, hk => absurd hk (by omega))) G188 Z187 hZ39 hown39 hS39 hks187 N187 (X187.more (by decide) (by decide)) (fun tg kt => ?_)
        refine pre0 _ ?_
        refine st1 _ ?_
        refine st2 _ ?_
        show Steps p.tables e below (s₁.setTop (mkF m 10 #[.val (.int p1), .val (.int p2), .val (.int p3), .val (.int p4), .val (.int p5), .val (.int p6), .val (.int kn), .unset, .unset, .unset] [(.int (5 : Int32))])) _
        refine st3 _ ?_
        refine st6 _ ?_
        show Steps p.tables e below (T3.setTop (mkF m 18 #[.val (.int p1), .val (.int p2), .val (.int p3), .val (.int p4), .val (.int p5), .val (.int p6), .val (.int kn), .val (.ref b3), .unset, .unset] [(.int p2), (.int (0 : Int32)), (.ref b3)])) _
        refine st7.trans ?_
        show Steps p.tables e below (T7.setTop (mkF m 21 #[.val (.int p1), .val (.int p2), .val (.int p3), .val (.int p4), .val (.int p5), .val (.int p6), .val (.int kn), .val (.ref b3), .unset, .unset] [(.int z7), (.int (0 : Int32)), (.ref b3)])) _
        refine st11 _ ?_
        refine st14 _ ?_
        show Steps p.tables e below (T11.setTop (mkF m 26 #[.val (.int p1), .val (.int p2), .val (.int p3), .val (.int p4), .val (.int p5), .val (.int p6), .val (.int kn), .val (.ref b3), .unset, .unset] [(.int p3), (.int (1 : Int32)), (.ref b3)])) _
        refine st15.trans ?_
        show Steps p.tables e below (T15.setTop (mkF m 29 #[.val (.int p1), .val (.int p2), .val (.int p3), .val (.int p4), .val (.int p5), .val (.int p6), .val (.int kn), .val (.ref b3), .unset, .unset] [(.int z15), (.int (1 : Int32)), (.ref b3)])) _
        refine st19 _ ?_
        refine st22 _ ?_
        show Steps p.tables e below (T19.setTop (mkF m 34 #[.val (.int p1), .val (.int p2), .val (.int p3), .val (.int p4), .val (.int p5), .val (.int p6), .val (.int kn), .val (.ref b3), .unset, .unset] [(.int p4), (.int (2 : Int32)), (.ref b3)])) _
        refine st23.trans ?_
        show Steps p.tables e below (T23.setTop (mkF m 37 #[.val (.int p1), .val (.int p2), .val (.int p3), .val (.int p4), .val (.int p5), .val (.int p6), .val (.int kn), .val (.ref b3), .unset, .unset] [(.int z23), (.int (2 : Int32)), (.ref b3)])) _
        refine st27 _ ?_
        refine st30 _ ?_
        show Steps p.tables e below (T27.setTop (mkF m 43 #[.val (.int p1), .val (.int p2), .val (.int p3), .val (.int p4), .val (.int p5), .val (.int p6), .val (.int kn), .val (.ref b3), .unset, .unset] [(.int p5), (.int (3 : Int32)), (.ref b3)])) _
        refine st31.trans ?_
        show Steps p.tables e below (T31.setTop (mkF m 46 #[.val (.int p1), .val (.int p2), .val (.int p3), .val (.int p4), .val (.int p5), .val (.int p6), .val (.int kn), .val (.ref b3), .unset, .unset] [(.int z31), (.int (3 : Int32)), (.ref b3)])) _
        refine st35 _ ?_
        refine st38 _ ?_
        show Steps p.tables e below (T35.setTop (mkF m 52 #[.val (.int p1), .val (.int p2), .val (.int p3), .val (.int p4), .val (.int p5), .val (.int p6), .val (.int kn), .val (.ref b3), .unset, .unset] [(.int p6), (.int (4 : Int32)), (.ref b3)])) _
        refine st39.trans ?_
        show Steps p.tables e below (T39.setTop (mkF m 55 #[.val (.int p1), .val (.int p2), .val (.int p3), .val (.int p4), .val (.int p5), .val (.int p6), .val (.int kn), .val (.ref b3), .unset, .unset] [(.int z39), (.int (4 : Int32)), (.ref b3)])) _
        refine st43 _ ?_
        refine st92 _ ?_
        refine st115 _ ?_
        refine st149 _ ?_
        refine st150 _ ?_
        show Steps p.tables e below (T43.setTop (mkF m 110 #[.val (.int p1), .val (.int p2), .val (.int p3), .val (.int p4), .val (.int p5), .val (.int p6), .val (.int kn), .val (.ref b3), .unset, .unset] [])) _
        rw [hc107_148]
        show Steps p.tables e below (T43.setTop (mkF m 110 #[.val (.int p1), .val (.int p2), .val (.int p3), .val (.int p4), .val (.int p5), .val (.int p6), .val (.int (2 : Int32)), .val (.ref b3), .unset, .unset] [])) _
        refine st151 _ ?_
        refine st157 _ ?_
        show Steps p.tables e below (T151.setTop (mkF m 115 #[.val (.int p1), .val (.int p2), .val (.int p3), .val (.int p4), .val (.int p5), .val (.int p6), .val (.int (2 : Int32)), .val (.ref b3), .unset, .unset] [(.int (2 : Int32)), (.ref b151), (.ref b151)])) _
        refine st158 _ ?_
        refine st166 _ ?_
        refine st167 _ ?_
        show Steps p.tables e below (T158.setTop (mkF m 123 #[.val (.int p1), .val (.int p2), .val (.int p3), .val (.int p4), .val (.int p5), .val (.int p6), .val (.int (2 : Int32)), .val (.ref b3), .unset, .unset] [(.int (nar .char z7)), (.int (0 : Int32)), (.ref b158), (.ref b158), (.ref b151), (.ref b151)])) _
        refine st169 _ ?_
        refine st177 _ ?_
        refine st178 _ ?_
        show Steps p.tables e below (T169.setTop (mkF m 130 #[.val (.int p1), .val (.int p2), .val (.int p3), .val (.int p4), .val (.int p5), .val (.int p6), .val (.int (2 : Int32)), .val (.ref b3), .unset, .unset] [(.int (nar .char z15)), (.int (1 : Int32)), (.ref b158), (.ref b158), (.ref b151), (.ref b151)])) _
        refine st180 _ ?_
        show Steps p.tables e below (T180.setTop (mkF m 131 #[.val (.int p1), .val (.int p2), .val (.int p3), .val (.int p4), .val (.int p5), .val (.int p6), .val (.int (2 : Int32)), .val (.ref b3), .unset, .unset] [(.ref b158), (.ref b151), (.ref b151)])) _
        refine st187.trans ?_
        refine st192 _ ?_
        exact kt
      · -- pc 107: not kn = (2 : Int32)
        have st194 : ∀ tg, Steps p.tables e below (T43.setTop (mkF m 142 #[.val (.int p1), .val (.int p2), .val (.int p3), .val (.int p4), .val (.int p5), .val (.int p6), .val (.int kn), .val (.ref b3), .unset, .unset] [(.int (3 : Int32)), (.int kn)])) tg → Steps p.tables e below (T43.setTop (mkF m 107 #[.val (.int p1), .val (.int p2), .val (.int p3), .val (.int p4), .val (.int p5), .val (.int p6), .val (.int kn), .val (.ref b3), .unset, .unset] [(.int (2 : Int32)), (.int kn)])) tg := by
          intro tg kt
          refine XS.icmpYes X43.here hx rfl (pc0 := 107) (pc' := 139) rfl (hb hby at_107) rfl (XT.ii_ne_t hc107_148) (by decide) (by decide) ?_
          refine XS.iload X43.here hx rfl (hb hby at_139) rfl ?_
          refine XS.iconst X43.here hx rfl (hb hby at_141) ?_
          exact kt
        by_cases hc142_193 : kn = (3 : Int32)
        · -- pc 142: kn = (3 : Int32)
          have st195 : ∀ tg, Steps p.tables e below (T43.setTop (mkF m 145 #[.val (.int p1), .val (.int p2), .val (.int p3), .val (.int p4), .val (.int p5), .val (.int p6), .val (.int kn), .val (.ref b3), .unset, .unset] [])) tg → Steps p.tables e below (T43.setTop (mkF m 142 #[.val (.int p1), .val (.int p2), .val (.int p3), .val (.int p4), .val (.int p5), .val (.int p6), .val (.int kn), .val (.ref b3), .unset, .unset] [(.int (3 : Int32)), (.int kn)])) tg := by
            intro tg kt
            refine XS.icmpNo X43.here hx rfl (hb hby at_142) rfl (XT.ii_ne_f hc142_193) ?_
            exact kt
          obtain ⟨T196, h196, X196, e196, E196, A196, D196, -, st196⟩ := newO X43 hx hZ39 hown39 (hw _ (List.mem_of_getElem? (i := 40) rfl)) (hw _ (List.mem_of_getElem? (i := 9) rfl)) (hw _ (List.mem_of_getElem? (i := 8) rfl)) e43 (g := (mkF m 145 #[.val (.int p1), .val (.int p2), .val (.int p3), .val (.int p4), .val (.int p5), .val (.int p6), .val (.int (3 : Int32)), .val (.ref b3), .unset, .unset] [])) rfl (hb hby at_145) (by decide) (by decide)
          obtain ⟨b196, gz196⟩ : ∃ z, z = h43.size := ⟨_, rfl⟩
          rw [← gz196] at A196 D196 st196
          have ne_b3_b196 : b3 ≠ b196 := Nat.ne_of_lt (Nat.lt_of_lt_of_le G45.lt (Nat.le_of_eq gz196.symm))
          have g_b196 : n0 ≤ b196 := Nat.le_trans Z43 (Nat.le_of_eq gz196.symm)
          have sz_b196 : h0.size ≤ b196 := Nat.le_trans K43.1 (Nat.le_of_eq gz196.symm)
          have G197 : Old Z n0 h196 := G44.ext E196
          have G198 : Arv Z h196 b3 k3 .char (5 : Int32) [(.int (nar .char z7)), (.int (nar .char z15)), (.int (nar .char z23)), (.int (nar .char z31)), (.int (nar .char z39))] (.int (0 : Int32)) := G45.ext E196
          have K196 : Keep h0 h196 [] := K43.ext E196
          have Z196 : n0 ≤ h196.size := Nat.le_trans Z43 E196.1
          have hks196 := Nat.le_trans hks43 E196.1
          have CH196 := CHr.ext E196 CH43.1
          have G199 : Exa Z h196 b196 "java/lang/String" := A196
          have G200 : Fld Z h196 b196 "java/lang/String" "value" "[B" .null := D196 (Or.inr (hw _ (List.mem_of_getElem? (i := 11) rfl))) (ty := (.array .byte)) (by decide)
          have G201 : Fld Z h196 b196 "java/lang/String" "coder" "B" (.int (0 : Int32)) := D196 (Or.inr (hw _ (List.mem_of_getElem? (i := 12) rfl))) (ty := .byte) (by decide)
          have st202 : ∀ tg, Steps p.tables e below (T196.setTop (mkF m 150 #[.val (.int p1), .val (.int p2), .val (.int p3), .val (.int p4), .val (.int p5), .val (.int p6), .val (.int (3 : Int32)), .val (.ref b3), .unset, .unset] [(.int (3 : Int32)), (.ref b196), (.ref b196)])) tg → Steps p.tables e below (T196.setTop (mkF m 148 #[.val (.int p1), .val (.int p2), .val (.int p3), .val (.int p4), .val (.int p5), .val (.int p6), .val (.int (3 : Int32)), .val (.ref b3), .unset, .unset] [(.ref b196)])) tg := by
            intro tg kt
            refine XS.dup X196.here hx rfl (hb hby at_148) rfl rfl ?_
            refine XS.iconst X196.here hx rfl (hb hby at_149) ?_
            exact kt
          obtain ⟨T203, h203, k203, X203, e203, E203, A203, st203⟩ := newP X196 hx hZ39 (hw _ (List.mem_of_getElem? (i := 1) rfl)) e196 (g := (mkF m 150 #[.val (.int p1), .val (.int p2), .val (.int p3), .val (.int p4), .val (.int p5), .val (.int p6), .val (.int (3 : Int32)), .val (.ref b3), .unset, .unset] [(.int (3 : Int32)), (.ref b196), (.ref b196)])) rfl (hb hby at_150) rfl (by decide) (cap := 3) (by decide) (by decide) (by decide) (by decide)
          obtain ⟨b203, gz203⟩ : ∃ z, z = h196.size := ⟨_, rfl⟩
          rw [← gz203] at A203 st203
          have ne_b3_b203 : b3 ≠ b203 := Nat.ne_of_lt (Nat.lt_of_lt_of_le G198.lt (Nat.le_of_eq gz203.symm))
          have ne_b196_b203 : b196 ≠ b203 := Nat.ne_of_lt (Nat.lt_of_lt_of_le G199.lt (Nat.le_of_eq gz203.symm))
          have g_b203 : n0 ≤ b203 := Nat.le_trans Z196 (Nat.le_of_eq gz203.symm)
          have sz_b203 : h0.size ≤ b203 := Nat.le_trans K196.1 (Nat.le_of_eq gz203.symm)
          have G204 : Old Z n0 h203 := G197.ext E203
          have G205 : Arv Z h203 b3 k3 .char (5 : Int32) [(.int (nar .char z7)), (.int (nar .char z15)), (.int (nar .char z23)), (.int (nar .char z31)), (.int (nar .char z39))] (.int (0 : Int32)) := G198.ext E203
          have G206 : Exa Z h203 b196 "java/lang/String" := G199.ext E203
          have G207 : Fld Z h203 b196 "java/lang/String" "value" "[B" .null := G200.ext E203
          have G208 : Fld Z h203 b196 "java/lang/String" "coder" "B" (.int (0 : Int32)) := G201.ext E203
          have K203 : Keep h0 h203 [] := K196.ext E203
          have Z203 : n0 ≤ h203.size := Nat.le_trans Z196 E203.1
          have hks203 := Nat.le_trans hks196 E203.1
          have CH203 := CHr.ext E203 CH196.1
          have G209 : Arv Z h203 b203 k203 .char (3 : Int32) [(.int (0 : Int32)), (.int (0 : Int32)), (.int (0 : Int32))] (.int (0 : Int32)) := (Arv.new A203 (by decide)).pad (pad_rep [] (.int (0 : Int32)) 3)
          have st211 : ∀ tg, Steps p.tables e below (T203.setTop (mkF m 157 #[.val (.int p1), .val (.int p2), .val (.int p3), .val (.int p4), .val (.int p5), .val (.int p6), .val (.int (3 : Int32)), .val (.ref b3), .unset, .unset] [(.int (0 : Int32)), (.ref b3), (.int (0 : Int32)), (.ref b203), (.ref b203), (.ref b196), (.ref b196)])) tg → Steps p.tables e below (T203.setTop (mkF m 152 #[.val (.int p1), .val (.int p2), .val (.int p3), .val (.int p4), .val (.int p5), .val (.int p6), .val (.int (3 : Int32)), .val (.ref b3), .unset, .unset] [(.ref b203), (.ref b196), (.ref b196)])) tg := by
            intro tg kt
            refine XS.dup X203.here hx rfl (hb hby at_152) rfl rfl ?_
            refine XS.iconst X203.here hx rfl (hb hby at_153) ?_
            refine XS.aload X203.here hx rfl (hb hby at_154) rfl rfl ?_
            refine XS.iconst X203.here hx rfl (hb hby at_156) ?_
            exact kt
          obtain ⟨cl210, Ar210, qa210, Sa210, Na210, Ha210, Ga210⟩ := id G205
          have hin210 : ¬ ((0 : Int32) < 0 ∨ cl210.slots.size ≤ ((0 : Int32)).toNatClampNeg) := inb_of Sa210 ⟨by decide, by decide⟩
          have hat210 : cl210.slots[((0 : Int32)).toNatClampNeg]? = some (.int (nar .char z7)) := Has.at Ha210 hin210 rfl
          have st212 : ∀ tg, Steps p.tables e below (T203.setTop (mkF m 158 #[.val (.int p1), .val (.int p2), .val (.int p3), .val (.int p4), .val (.int p5), .val (.int p6), .val (.int (3 : Int32)), .val (.ref b3), .unset, .unset] [(.int (nar .char z7)), (.int (0 : Int32)), (.ref b203), (.ref b203), (.ref b196), (.ref b196)])) tg → Steps p.tables e below (T203.setTop (mkF m 157 #[.val (.int p1), .val (.int p2), .val (.int p3), .val (.int p4), .val (.int p5), .val (.int p6), .val (.int (3 : Int32)), .val (.ref b3), .unset, .unset] [(.int (0 : Int32)), (.ref b3), (.int (0 : Int32)), (.ref b203), (.ref b203), (.ref b196), (.ref b196)])) tg := by
            intro tg kt
            refine X203.caload hx (j := (0 : Int32)) (v := (.int (nar .char z7))) (by rw [e203]; exact Ar210.1) (State.isArrayOf_alike hZ39.alike Ar210.2.1) Ar210.2.2 hin210 hat210 (g := (mkF m 157 #[.val (.int p1), .val (.int p2), .val (.int p3), .val (.int p4), .val (.int p5), .val (.int p6), .val (.int (3 : Int32)), .val (.ref b3), .unset, .unset] [(.int (0 : Int32)), (.ref b3), (.int (0 : Int32)), (.ref b203), (.ref b203), (.ref b196), (.ref b196)])) rfl rfl (hb hby at_157) _ ?_
            exact kt
          obtain ⟨cl213, Ar213, qa213, Sa213, Na213, Ha213, Ga213⟩ := id G209
          have hin213 : ¬ ((0 : Int32) < 0 ∨ cl213.slots.size ≤ ((0 : Int32)).toNatClampNeg) := inb_of Sa213 ⟨by decide, by decide⟩
          obtain ⟨T214, h214, X214, e214, W214, st214⟩ := stC X203 hx hZ39 e203 Ar213 (j := (0 : Int32)) hin213 (g := (mkF m 158 #[.val (.int p1), .val (.int p2), .val (.int p3), .val (.int p4), .val (.int p5), .val (.int p6), .val (.int (3 : Int32)), .val (.ref b3), .unset, .unset] [(.int (nar .char z7)), (.int (0 : Int32)), (.ref b203), (.ref b203), (.ref b196), (.ref b196)])) rfl rfl (hb hby at_158)
          have N214 := Fr.snoc X214 N43 g_b203
          have K214 : Keep h0 h214 [] := K203.wr W214 (Or.inr sz_b203)
          have Z214 : n0 ≤ h214.size := Nat.le_trans Z203 (Keep.of_wr W214).1
          have hks214 := Nat.le_trans hks203 (Keep.of_wr W214).1
          have CH214 := CHr.wr W214 (Safe.arr hZ39.alike Ar213 (by decide)) CH203.1
          have G215 : Old Z n0 h214 := G204.wr W214 g_b203
          have G216 : Arv Z h214 b3 k3 .char (5 : Int32) [(.int (nar .char z7)), (.int (nar .char z15)), (.int (nar .char z23)), (.int (nar .char z31)), (.int (nar .char z39))] (.int (0 : Int32)) := G205.other W214 ne_b3_b203
          have G217 : Exa Z h214 b196 "java/lang/String" := G206.wr W214
          have G218 : Fld Z h214 b196 "java/lang/String" "value" "[B" .null := G207.other W214 (Or.inl ne_b196_b203)
          have G219 : Fld Z h214 b196 "java/lang/String" "coder" "B" (.int (0 : Int32)) := G208.other W214 (Or.inl ne_b196_b203)
          have G220 : Arv Z h214 b203 k203 .char (3 : Int32) [(.int (nar .char (nar .char z7))), (.int (0 : Int32)), (.int (0 : Int32))] (.int (0 : Int32)) := Arv.set Ar213 qa213 Sa213 Na213 Ha213 Ga213 (fits_nar_char _) W214 0 rfl (Nat.le_of_ble_eq_true rfl)
          have st222 : ∀ tg, Steps p.tables e below (T214.setTop (mkF m 164 #[.val (.int p1), .val (.int p2), .val (.int p3), .val (.int p4), .val (.int p5), .val (.int p6), .val (.int (3 : Int32)), .val (.ref b3), .unset, .unset] [(.int (1 : Int32)), (.ref b3), (.int (1 : Int32)), (.ref b203), (.ref b203), (.ref b196), (.ref b196)])) tg → Steps p.tables e below (T214.setTop (mkF m 159 #[.val (.int p1), .val (.int p2), .val (.int p3), .val (.int p4), .val (.int p5), .val (.int p6), .val (.int (3 : Int32)), .val (.ref b3), .unset, .unset] [(.ref b203), (.ref b196), (.ref b196)])) tg := by
            intro tg kt
            refine XS.dup X214.here hx rfl (hb hby at_159) rfl rfl ?_
            refine XS.iconst X214.here hx rfl (hb hby at_160) ?_
            refine XS.aload X214.here hx rfl (hb hby at_161) rfl rfl ?_
            refine XS.iconst X214.here hx rfl (hb hby at_163) ?_
            exact kt
          obtain ⟨cl221, Ar221, qa221, Sa221, Na221, Ha221, Ga221⟩ := id G216
          have hin221 : ¬ ((1 : Int32) < 0 ∨ cl221.slots.size ≤ ((1 : Int32)).toNatClampNeg) := inb_of Sa221 ⟨by decide, by decide⟩
          have hat221 : cl221.slots[((1 : Int32)).toNatClampNeg]? = some (.int (nar .char z15)) := Has.at Ha221 hin221 rfl
          have st223 : ∀ tg, Steps p.tables e below (T214.setTop (mkF m 165 #[.val (.int p1), .val (.int p2), .val (.int p3), .val (.int p4), .val (.int p5), .val (.int p6), .val (.int (3 : Int32)), .val (.ref b3), .unset, .unset] [(.int (nar .char z15)), (.int (1 : Int32)), (.ref b203), (.ref b203), (.ref b196), (.ref b196)])) tg → Steps p.tables e below (T214.setTop (mkF m 164 #[.val (.int p1), .val (.int p2), .val (.int p3), .val (.int p4), .val (.int p5), .val (.int p6), .val (.int (3 : Int32)), .val (.ref b3), .unset, .unset] [(.int (1 : Int32)), (.ref b3), (.int (1 : Int32)), (.ref b203), (.ref b203), (.ref b196), (.ref b196)])) tg := by
            intro tg kt
            refine X214.caload hx (j := (1 : Int32)) (v := (.int (nar .char z15))) (by rw [e214]; exact Ar221.1) (State.isArrayOf_alike hZ39.alike Ar221.2.1) Ar221.2.2 hin221 hat221 (g := (mkF m 164 #[.val (.int p1), .val (.int p2), .val (.int p3), .val (.int p4), .val (.int p5), .val (.int p6), .val (.int (3 : Int32)), .val (.ref b3), .unset, .unset] [(.int (1 : Int32)), (.ref b3), (.int (1 : Int32)), (.ref b203), (.ref b203), (.ref b196), (.ref b196)])) rfl rfl (hb hby at_164) _ ?_
            exact kt
          obtain ⟨cl224, Ar224, qa224, Sa224, Na224, Ha224, Ga224⟩ := id G220
          have hin224 : ¬ ((1 : Int32) < 0 ∨ cl224.slots.size ≤ ((1 : Int32)).toNatClampNeg) := inb_of Sa224 ⟨by decide, by decide⟩
          obtain ⟨T225, h225, X225, e225, W225, st225⟩ := stC X214 hx hZ39 e214 Ar224 (j := (1 : Int32)) hin224 (g := (mkF m 165 #[.val (.int p1), .val (.int p2), .val (.int p3), .val (.int p4), .val (.int p5), .val (.int p6), .val (.int (3 : Int32)), .val (.ref b3), .unset, .unset] [(.int (nar .char z15)), (.int (1 : Int32)), (.ref b203), (.ref b203), (.ref b196), (.ref b196)])) rfl rfl (hb hby at_165)
          have N225 := Fr.snoc X225 N214 g_b203
          have K225 : Keep h0 h225 [] := K214.wr W225 (Or.inr sz_b203)
          have Z225 : n0 ≤ h225.size := Nat.le_trans Z214 (Keep.of_wr W225).1
          have hks225 := Nat.le_trans hks214 (Keep.of_wr W225).1
          have CH225 := CHr.wr W225 (Safe.arr hZ39.alike Ar224 (by decide)) CH214.1
          have G226 : Old Z n0 h225 := G215.wr W225 g_b203
          have G227 : Arv Z h225 b3 k3 .char (5 : Int32) [(.int (nar .char z7)), (.int (nar .char z15)), (.int (nar .char z23)), (.int (nar .char z31)), (.int (nar .char z39))] (.int (0 : Int32)) := G216.other W225 ne_b3_b203
          have G228 : Exa Z h225 b196 "java/lang/String" := G217.wr W225
          have G229 : Fld Z h225 b196 "java/lang/String" "value" "[B" .null := G218.other W225 (Or.inl ne_b196_b203)
          have G230 : Fld Z h225 b196 "java/lang/String" "coder" "B" (.int (0 : Int32)) := G219.other W225 (Or.inl ne_b196_b203)
          have G231 : Arv Z h225 b203 k203 .char (3 : Int32) [(.int (nar .char (nar .char z7))), (.int (nar .char (nar .char z15))), (.int (0 : Int32))] (.int (0 : Int32)) := Arv.set Ar224 qa224 Sa224 Na224 Ha224 Ga224 (fits_nar_char _) W225 1 rfl (Nat.le_of_ble_eq_true rfl)
          have st233 : ∀ tg, Steps p.tables e below (T225.setTop (mkF m 171 #[.val (.int p1), .val (.int p2), .val (.int p3), .val (.int p4), .val (.int p5), .val (.int p6), .val (.int (3 : Int32)), .val (.ref b3), .unset, .unset] [(.int (2 : Int32)), (.ref b3), (.int (2 : Int32)), (.ref b203), (.ref b203), (.ref b196), (.ref b196)])) tg → Steps p.tables e below (T225.setTop (mkF m 166 #[.val (.int p1), .val (.int p2), .val (.int p3), .val (.int p4), .val (.int p5), .val (.int p6), .val (.int (3 : Int32)), .val (.ref b3), .unset, .unset] [(.ref b203), (.ref b196), (.ref b196)])) tg := by
            intro tg kt
            refine XS.dup X225.here hx rfl (hb hby at_166) rfl rfl ?_
            refine XS.iconst X225.here hx rfl (hb hby at_167) ?_
            refine XS.aload X225.here hx rfl (hb hby at_168) rfl rfl ?_
            refine XS.iconst X225.here hx rfl (hb hby at_170) ?_
            exact kt
          obtain ⟨cl232, Ar232, qa232, Sa232, Na232, Ha232, Ga232⟩ := id G227
          have hin232 : ¬ ((2 : Int32) < 0 ∨ cl232.slots.size ≤ ((2 : Int32)).toNatClampNeg) := inb_of Sa232 ⟨by decide, by decide⟩
          have hat232 : cl232.slots[((2 : Int32)).toNatClampNeg]? = some (.int (nar .char z23)) := Has.at Ha232 hin232 rfl
          have st234 : ∀ tg, Steps p.tables e below (T225.setTop (mkF m 172 #[.val (.int p1), .val (.int p2), .val (.int p3), .val (.int p4), .val (.int p5), .val (.int p6), .val (.int (3 : Int32)), .val (.ref b3), .unset, .unset] [(.int (nar .char z23)), (.int (2 : Int32)), (.ref b203), (.ref b203), (.ref b196), (.ref b196)])) tg → Steps p.tables e below (T225.setTop (mkF m 171 #[.val (.int p1), .val (.int p2), .val (.int p3), .val (.int p4), .val (.int p5), .val (.int p6), .val (.int (3 : Int32)), .val (.ref b3), .unset, .unset] [(.int (2 : Int32)), (.ref b3), (.int (2 : Int32)), (.ref b203), (.ref b203), (.ref b196), (.ref b196)])) tg := by
            intro tg kt
            refine X225.caload hx (j := (2 : Int32)) (v := (.int (nar .char z23))) (by rw [e225]; exact Ar232.1) (State.isArrayOf_alike hZ39.alike Ar232.2.1) Ar232.2.2 hin232 hat232 (g := (mkF m 171 #[.val (.int p1), .val (.int p2), .val (.int p3), .val (.int p4), .val (.int p5), .val (.int p6), .val (.int (3 : Int32)), .val (.ref b3), .unset, .unset] [(.int (2 : Int32)), (.ref b3), (.int (2 : Int32)), (.ref b203), (.ref b203), (.ref b196), (.ref b196)])) rfl rfl (hb hby at_171) _ ?_
            exact kt
          obtain ⟨cl235, Ar235, qa235, Sa235, Na235, Ha235, Ga235⟩ := id G231
          have hin235 : ¬ ((2 : Int32) < 0 ∨ cl235.slots.size ≤ ((2 : Int32)).toNatClampNeg) := inb_of Sa235 ⟨by decide, by decide⟩
          obtain ⟨T236, h236, X236, e236, W236, st236⟩ := stC X225 hx hZ39 e225 Ar235 (j := (2 : Int32)) hin235 (g := (mkF m 172 #[.val (.int p1), .val (.int p2), .val (.int p3), .val (.int p4), .val (.int p5), .val (.int p6), .val (.int (3 : Int32)), .val (.ref b3), .unset, .unset] [(.int (nar .char z23)), (.int (2 : Int32)), (.ref b203), (.ref b203), (.ref b196), (.ref b196)])) rfl rfl (hb hby at_172)
          have N236 := Fr.snoc X236 N225 g_b203
          have K236 : Keep h0 h236 [] := K225.wr W236 (Or.inr sz_b203)
          have Z236 : n0 ≤ h236.size := Nat.le_trans Z225 (Keep.of_wr W236).1
          have hks236 := Nat.le_trans hks225 (Keep.of_wr W236).1
          have CH236 := CHr.wr W236 (Safe.arr hZ39.alike Ar235 (by decide)) CH225.1
          have G237 : Old Z n0 h236 := G226.wr W236 g_b203
          have G238 : Arv Z h236 b3 k3 .char (5 : Int32) [(.int (nar .char z7)), (.int (nar .char z15)), (.int (nar .char z23)), (.int (nar .char z31)), (.int (nar .char z39))] (.int (0 : Int32)) := G227.other W236 ne_b3_b203
          have G239 : Exa Z h236 b196 "java/lang/String" := G228.wr W236
          have G240 : Fld Z h236 b196 "java/lang/String" "value" "[B" .null := G229.other W236 (Or.inl ne_b196_b203)
          have G241 : Fld Z h236 b196 "java/lang/String" "coder" "B" (.int (0 : Int32)) := G230.other W236 (Or.inl ne_b196_b203)
          have G242 : Arv Z h236 b203 k203 .char (3 : Int32) [(.int (nar .char (nar .char z7))), (.int (nar .char (nar .char z15))), (.int (nar .char (nar .char z23)))] (.int (0 : Int32)) := Arv.set Ar235 qa235 Sa235 Na235 Ha235 Ga235 (fits_nar_char _) W236 2 rfl (Nat.le_of_ble_eq_true rfl)
          obtain ⟨_, _, ⟨T243, L243, k243, n243⟩, -, X243, ⟨Lc243, hQ243, l243, y243, z243⟩, st243⟩ := X236.specialBack hx (y := (⟨"java/lang/String", "<init>", "([C)V"⟩ : MethodName)) rfl hown39 (mvT hZ39 (hw _ (List.mem_of_getElem? (i := 41) rfl))) (mvT hZ39 (hw _ (List.mem_of_getElem? (i := 42) rfl))) (mvT hZ39 (hw _ (List.mem_of_getElem? (i := 43) rfl))) (by decide) (backOf (W := 1) (rm7 l Z a0 hw [] b196 b203 3 CF wc h236 n0 Z236 G237 S_c hwc S_a S_h S_l (by decide) (by decide) (fun t _ => hCc t) G239 G240 G241 (ArF.of_arv G242 (by decide) (fun i hi => match i, hi with | 0, _ => (by rw [hC0]; exact congrArg Value.int (own_nn2 _)) | 1, _ => (by rw [hC1]; exact congrArg Value.int (own_nn2 _)) | 2, _ => (by rw [hC2]; exact congrArg Value.int (own_nn2 _)) | k + 3, hk => absurd hk (by omega))) g_b196 (Ne.symm ne_b196_b203)) hZ39 (hw _ (List.mem_of_getElem? (i := 43) rfl)) (hw _ (List.mem_of_getElem? (i := 8) rfl)) (by decide) (by decide)) (g := (mkF m 173 #[.val (.int p1), .val (.int p2), .val (.int p3), .val (.int p4), .val (.int p5), .val (.int p6), .val (.int (3 : Int32)), .val (.ref b3), .unset, .unset] [(.ref b203), (.ref b196), (.ref b196)])) rfl (by rw [hml]; rfl) (Steps.refl _) (a := b196) (argsL := [(.ref b203)]) (rest := [(.ref b196)]) (lenOf pd_26 rfl) rfl (by show 2 * 0 + _ ≤ _; exact Nat.le_of_eq rfl) (hb hby at_173) (fun _ _ => ⟨rfl, e236, (by decide : 13 + 2 ≤ _), (by decide : 472 + 15 ≤ _)⟩)
          dsimp only [Pt.U, Pt.locs, Pt.cells, Pt.slots] at X243 l243 y243 z243 st243 hQ243
          subst l243 y243 z243
          obtain ⟨rfl, N243q, K243q, S243q⟩ := hQ243
          have N243 := Fr.app N236 N243q
          have G244 : Old Z n0 T243.heap := G237.keep K243q (allS g_b196 (all0))
          have G245 : Arv Z T243.heap b3 k3 .char (5 : Int32) [(.int (nar .char z7)), (.int (nar .char z15)), (.int (nar .char z23)), (.int (nar .char z31)), (.int (nar .char z39))] (.int (0 : Int32)) := G238.keep K243q (ninS ne_b3_b196 (nin0))
          have G246 : Exa Z T243.heap b196 "java/lang/String" := G239.keep K243q
          have G247 : Arv Z T243.heap b203 k203 .char (3 : Int32) [(.int (nar .char (nar .char z7))), (.int (nar .char (nar .char z15))), (.int (nar .char (nar .char z23)))] (.int (0 : Int32)) := G242.keep K243q (ninS (Ne.symm ne_b196_b203) (nin0))
          have K243 : Keep h0 T243.heap [] := K236.trans K243q (allS (Or.inr sz_b196) all0)
          have Z243 : n0 ≤ T243.heap.size := Nat.le_trans Z236 K243q.1
          have hks243 := Nat.le_trans hks236 K243q.1
          have st248 : ∀ tg, Steps p.tables e below (T243.setTop (mkF m 277 #[.val (.int p1), .val (.int p2), .val (.int p3), .val (.int p4), .val (.int p5), .val (.int p6), .val (.int (3 : Int32)), .val (.ref b3), .val (.ref b196), .unset] [])) tg → Steps p.tables e below (T243.setTop (mkF m 176 #[.val (.int p1), .val (.int p2), .val (.int p3), .val (.int p4), .val (.int p5), .val (.int p6), .val (.int (3 : Int32)), .val (.ref b3), .unset, .unset] [(.ref b196)])) tg := by
            intro tg kt
            refine XS.astore X243.here hx rfl (hb hby at_176) rfl rfl (l' := #[.val (.int p1), .val (.int p2), .val (.int p3), .val (.int p4), .val (.int p5), .val (.int p6), .val (.int (3 : Int32)), .val (.ref b3), .val (.ref b196), .unset]) rfl ?_
            refine XS.goto X243.here hx rfl (pc0 := 178) (pc' := 277) rfl (hb hby at_178) (by decide) (by decide) ?_
            exact kt
          refine tail 3 b196 _ _ _ _ (by decide) S243q (ArF.of_arv G245 (by decide) (fun i hi => match i, hi with | 0, _ => congrArg Value.int hC0.symm | 1, _ => congrArg Value.int hC1.symm | 2, _ => congrArg Value.int hC2.symm | 3, _ => congrArg Value.int hC3.symm | 4, _ => congrArg Value.int hC4.symm | k + 5, hk => absurd hk (by omega))) G244 Z243 hZ39 hown39 hS39 hks243 N243 (X243.more (by decide) (by decide)) (fun tg kt => ?_)
          refine pre0 _ ?_
          refine st1 _ ?_
          refine st2 _ ?_
          show Steps p.tables e below (s₁.setTop (mkF m 10 #[.val (.int p1), .val (.int p2), .val (.int p3), .val (.int p4), .val (.int p5), .val (.int p6), .val (.int kn), .unset, .unset, .unset] [(.int (5 : Int32))])) _
          refine st3 _ ?_
          refine st6 _ ?_
          show Steps p.tables e below (T3.setTop (mkF m 18 #[.val (.int p1), .val (.int p2), .val (.int p3), .val (.int p4), .val (.int p5), .val (.int p6), .val (.int kn), .val (.ref b3), .unset, .unset] [(.int p2), (.int (0 : Int32)), (.ref b3)])) _
          refine st7.trans ?_
          show Steps p.tables e below (T7.setTop (mkF m 21 #[.val (.int p1), .val (.int p2), .val (.int p3), .val (.int p4), .val (.int p5), .val (.int p6), .val (.int kn), .val (.ref b3), .unset, .unset] [(.int z7), (.int (0 : Int32)), (.ref b3)])) _
          refine st11 _ ?_
          refine st14 _ ?_
          show Steps p.tables e below (T11.setTop (mkF m 26 #[.val (.int p1), .val (.int p2), .val (.int p3), .val (.int p4), .val (.int p5), .val (.int p6), .val (.int kn), .val (.ref b3), .unset, .unset] [(.int p3), (.int (1 : Int32)), (.ref b3)])) _
          refine st15.trans ?_
          show Steps p.tables e below (T15.setTop (mkF m 29 #[.val (.int p1), .val (.int p2), .val (.int p3), .val (.int p4), .val (.int p5), .val (.int p6), .val (.int kn), .val (.ref b3), .unset, .unset] [(.int z15), (.int (1 : Int32)), (.ref b3)])) _
          refine st19 _ ?_
          refine st22 _ ?_
          show Steps p.tables e below (T19.setTop (mkF m 34 #[.val (.int p1), .val (.int p2), .val (.int p3), .val (.int p4), .val (.int p5), .val (.int p6), .val (.int kn), .val (.ref b3), .unset, .unset] [(.int p4), (.int (2 : Int32)), (.ref b3)])) _
          refine st23.trans ?_
          show Steps p.tables e below (T23.setTop (mkF m 37 #[.val (.int p1), .val (.int p2), .val (.int p3), .val (.int p4), .val (.int p5), .val (.int p6), .val (.int kn), .val (.ref b3), .unset, .unset] [(.int z23), (.int (2 : Int32)), (.ref b3)])) _
          refine st27 _ ?_
          refine st30 _ ?_
          show Steps p.tables e below (T27.setTop (mkF m 43 #[.val (.int p1), .val (.int p2), .val (.int p3), .val (.int p4), .val (.int p5), .val (.int p6), .val (.int kn), .val (.ref b3), .unset, .unset] [(.int p5), (.int (3 : Int32)), (.ref b3)])) _
          refine st31.trans ?_
          show Steps p.tables e below (T31.setTop (mkF m 46 #[.val (.int p1), .val (.int p2), .val (.int p3), .val (.int p4), .val (.int p5), .val (.int p6), .val (.int kn), .val (.ref b3), .unset, .unset] [(.int z31), (.int (3 : Int32)), (.ref b3)])) _
          refine st35 _ ?_
          refine st38 _ ?_
          show Steps p.tables e below (T35.setTop (mkF m 52 #[.val (.int p1), .val (.int p2), .val (.int p3), .val (.int p4), .val (.int p5), .val (.int p6), .val (.int kn), .val (.ref b3), .unset, .unset] [(.int p6), (.int (4 : Int32)), (.ref b3)])) _
          refine st39.trans ?_
          show Steps p.tables e below (T39.setTop (mkF m 55 #[.val (.int p1), .val (.int p2), .val (.int p3), .val (.int p4), .val (.int p5), .val (.int p6), .val (.int kn), .val (.ref b3), .unset, .unset] [(.int z39), (.int (4 : Int32)), (.ref b3)])) _
          refine st43 _ ?_
          refine st92 _ ?_
          refine st115 _ ?_
          refine st149 _ ?_
          refine st194 _ ?_
          refine st195 _ ?_
          show Steps p.tables e below (T43.setTop (mkF m 145 #[.val (.int p1), .val (.int p2), .val (.int p3), .val (.int p4), .val (.int p5), .val (.int p6), .val (.int kn), .val (.ref b3), .unset, .unset] [])) _
          rw [hc142_193]
          show Steps p.tables e below (T43.setTop (mkF m 145 #[.val (.int p1), .val (.int p2), .val (.int p3), .val (.int p4), .val (.int p5), .val (.int p6), .val (.int (3 : Int32)), .val (.ref b3), .unset, .unset] [])) _
          refine st196 _ ?_
          refine st202 _ ?_
          show Steps p.tables e below (T196.setTop (mkF m 150 #[.val (.int p1), .val (.int p2), .val (.int p3), .val (.int p4), .val (.int p5), .val (.int p6), .val (.int (3 : Int32)), .val (.ref b3), .unset, .unset] [(.int (3 : Int32)), (.ref b196), (.ref b196)])) _
          refine st203 _ ?_
          refine st211 _ ?_
          refine st212 _ ?_
          show Steps p.tables e below (T203.setTop (mkF m 158 #[.val (.int p1), .val (.int p2), .val (.int p3), .val (.int p4), .val (.int p5), .val (.int p6), .val (.int (3 : Int32)), .val (.ref b3), .unset, .unset] [(.int (nar .char z7)), (.int (0 : Int32)), (.ref b203), (.ref b203), (.ref b196), (.ref b196)])) _
          refine st214 _ ?_
          refine st222 _ ?_
          refine st223 _ ?_
          show Steps p.tables e below (T214.setTop (mkF m 165 #[.val (.int p1), .val (.int p2), .val (.int p3), .val (.int p4), .val (.int p5), .val (.int p6), .val (.int (3 : Int32)), .val (.ref b3), .unset, .unset] [(.int (nar .char z15)), (.int (1 : Int32)), (.ref b203), (.ref b203), (.ref b196), (.ref b196)])) _
          refine st225 _ ?_
          refine st233 _ ?_
          refine st234 _ ?_
          show Steps p.tables e below (T225.setTop (mkF m 172 #[.val (.int p1), .val (.int p2), .val (.int p3), .val (.int p4), .val (.int p5), .val (.int p6), .val (.int (3 : Int32)), .val (.ref b3), .unset, .unset] [(.int (nar .char z23)), (.int (2 : Int32)), (.ref b203), (.ref b203), (.ref b196), (.ref b196)])) _
          refine st236 _ ?_
          show Steps p.tables e below (T236.setTop (mkF m 173 #[.val (.int p1), .val (.int p2), .val (.int p3), .val (.int p4), .val (.int p5), .val (.int p6), .val (.int (3 : Int32)), .val (.ref b3), .unset, .unset] [(.ref b203), (.ref b196), (.ref b196)])) _
          refine st243.trans ?_
          refine st248 _ ?_
          exact kt
        · -- pc 142: not kn = (3 : Int32)
          have st250 : ∀ tg, Steps p.tables e below (T43.setTop (mkF m 184 #[.val (.int p1), .val (.int p2), .val (.int p3), .val (.int p4), .val (.int p5), .val (.int p6), .val (.int kn), .val (.ref b3), .unset, .unset] [(.int (4 : Int32)), (.int kn)])) tg → Steps p.tables e below (T43.setTop (mkF m 142 #[.val (.int p1), .val (.int p2), .val (.int p3), .val (.int p4), .val (.int p5), .val (.int p6), .val (.int kn), .val (.ref b3), .unset, .unset] [(.int (3 : Int32)), (.int kn)])) tg := by
            intro tg kt
            refine XS.icmpYes X43.here hx rfl (pc0 := 142) (pc' := 181) rfl (hb hby at_142) rfl (XT.ii_ne_t hc142_193) (by decide) (by decide) ?_
            refine XS.iload X43.here hx rfl (hb hby at_181) rfl ?_
            refine XS.iconst X43.here hx rfl (hb hby at_183) ?_
            exact kt
          by_cases hc184_249 : kn = (4 : Int32)
          · -- pc 184: kn = (4 : Int32)
            have st251 : ∀ tg, Steps p.tables e below (T43.setTop (mkF m 187 #[.val (.int p1), .val (.int p2), .val (.int p3), .val (.int p4), .val (.int p5), .val (.int p6), .val (.int kn), .val (.ref b3), .unset, .unset] [])) tg → Steps p.tables e below (T43.setTop (mkF m 184 #[.val (.int p1), .val (.int p2), .val (.int p3), .val (.int p4), .val (.int p5), .val (.int p6), .val (.int kn), .val (.ref b3), .unset, .unset] [(.int (4 : Int32)), (.int kn)])) tg := by
              intro tg kt
              refine XS.icmpNo X43.here hx rfl (hb hby at_184) rfl (XT.ii_ne_f hc184_249) ?_
              exact kt
            obtain ⟨T252, h252, X252, e252, E252, A252, D252, -, st252⟩ := newO X43 hx hZ39 hown39 (hw _ (List.mem_of_getElem? (i := 40) rfl)) (hw _ (List.mem_of_getElem? (i := 9) rfl)) (hw _ (List.mem_of_getElem? (i := 8) rfl)) e43 (g := (mkF m 187 #[.val (.int p1), .val (.int p2), .val (.int p3), .val (.int p4), .val (.int p5), .val (.int p6), .val (.int (4 : Int32)), .val (.ref b3), .unset, .unset] [])) rfl (hb hby at_187) (by decide) (by decide)
            obtain ⟨b252, gz252⟩ : ∃ z, z = h43.size := ⟨_, rfl⟩
            rw [← gz252] at A252 D252 st252
            have ne_b3_b252 : b3 ≠ b252 := Nat.ne_of_lt (Nat.lt_of_lt_of_le G45.lt (Nat.le_of_eq gz252.symm))
            have g_b252 : n0 ≤ b252 := Nat.le_trans Z43 (Nat.le_of_eq gz252.symm)
            have sz_b252 : h0.size ≤ b252 := Nat.le_trans K43.1 (Nat.le_of_eq gz252.symm)
            have G253 : Old Z n0 h252 := G44.ext E252
            have G254 : Arv Z h252 b3 k3 .char (5 : Int32) [(.int (nar .char z7)), (.int (nar .char z15)), (.int (nar .char z23)), (.int (nar .char z31)), (.int (nar .char z39))] (.int (0 : Int32)) := G45.ext E252
            have K252 : Keep h0 h252 [] := K43.ext E252
            have Z252 : n0 ≤ h252.size := Nat.le_trans Z43 E252.1
            have hks252 := Nat.le_trans hks43 E252.1
            have CH252 := CHr.ext E252 CH43.1
            have G255 : Exa Z h252 b252 "java/lang/String" := A252
            have G256 : Fld Z h252 b252 "java/lang/String" "value" "[B" .null := D252 (Or.inr (hw _ (List.mem_of_getElem? (i := 11) rfl))) (ty := (.array .byte)) (by decide)
            have G257 : Fld Z h252 b252 "java/lang/String" "coder" "B" (.int (0 : Int32)) := D252 (Or.inr (hw _ (List.mem_of_getElem? (i := 12) rfl))) (ty := .byte) (by decide)
            have st258 : ∀ tg, Steps p.tables e below (T252.setTop (mkF m 192 #[.val (.int p1), .val (.int p2), .val (.int p3), .val (.int p4), .val (.int p5), .val (.int p6), .val (.int (4 : Int32)), .val (.ref b3), .unset, .unset] [(.int (4 : Int32)), (.ref b252), (.ref b252)])) tg → Steps p.tables e below (T252.setTop (mkF m 190 #[.val (.int p1), .val (.int p2), .val (.int p3), .val (.int p4), .val (.int p5), .val (.int p6), .val (.int (4 : Int32)), .val (.ref b3), .unset, .unset] [(.ref b252)])) tg := by
              intro tg kt
              refine XS.dup X252.here hx rfl (hb hby at_190) rfl rfl ?_
              refine XS.iconst X252.here hx rfl (hb hby at_191) ?_
              exact kt
            obtain ⟨T259, h259, k259, X259, e259, E259, A259, st259⟩ := newP X252 hx hZ39 (hw _ (List.mem_of_getElem? (i := 1) rfl)) e252 (g := (mkF m 192 #[.val (.int p1), .val (.int p2), .val (.int p3), .val (.int p4), .val (.int p5), .val (.int p6), .val (.int (4 : Int32)), .val (.ref b3), .unset, .unset] [(.int (4 : Int32)), (.ref b252), (.ref b252)])) rfl (hb hby at_192) rfl (by decide) (cap := 4) (by decide) (by decide) (by decide) (by decide)
            obtain ⟨b259, gz259⟩ : ∃ z, z = h252.size := ⟨_, rfl⟩
            rw [← gz259] at A259 st259
            have ne_b3_b259 : b3 ≠ b259 := Nat.ne_of_lt (Nat.lt_of_lt_of_le G254.lt (Nat.le_of_eq gz259.symm))
            have ne_b252_b259 : b252 ≠ b259 := Nat.ne_of_lt (Nat.lt_of_lt_of_le G255.lt (Nat.le_of_eq gz259.symm))
            have g_b259 : n0 ≤ b259 := Nat.le_trans Z252 (Nat.le_of_eq gz259.symm)
            have sz_b259 : h0.size ≤ b259 := Nat.le_trans K252.1 (Nat.le_of_eq gz259.symm)
            have G260 : Old Z n0 h259 := G253.ext E259
            have G261 : Arv Z h259 b3 k3 .char (5 : Int32) [(.int (nar .char z7)), (.int (nar .char z15)), (.int (nar .char z23)), (.int (nar .char z31)), (.int (nar .char z39))] (.int (0 : Int32)) := G254.ext E259
            have G262 : Exa Z h259 b252 "java/lang/String" := G255.ext E259
            have G263 : Fld Z h259 b252 "java/lang/String" "value" "[B" .null := G256.ext E259
            have G264 : Fld Z h259 b252 "java/lang/String" "coder" "B" (.int (0 : Int32)) := G257.ext E259
            have K259 : Keep h0 h259 [] := K252.ext E259
            have Z259 : n0 ≤ h259.size := Nat.le_trans Z252 E259.1
            have hks259 := Nat.le_trans hks252 E259.1
            have CH259 := CHr.ext E259 CH252.1
            have G265 : Arv Z h259 b259 k259 .char (4 : Int32) [(.int (0 : Int32)), (.int (0 : Int32)), (.int (0 : Int32)), (.int (0 : Int32))] (.int (0 : Int32)) := (Arv.new A259 (by decide)).pad (pad_rep [] (.int (0 : Int32)) 4)
            have st267 : ∀ tg, Steps p.tables e below (T259.setTop (mkF m 199 #[.val (.int p1), .val (.int p2), .val (.int p3), .val (.int p4), .val (.int p5), .val (.int p6), .val (.int (4 : Int32)), .val (.ref b3), .unset, .unset] [(.int (0 : Int32)), (.ref b3), (.int (0 : Int32)), (.ref b259), (.ref b259), (.ref b252), (.ref b252)])) tg → Steps p.tables e below (T259.setTop (mkF m 194 #[.val (.int p1), .val (.int p2), .val (.int p3), .val (.int p4), .val (.int p5), .val (.int p6), .val (.int (4 : Int32)), .val (.ref b3), .unset, .unset] [(.ref b259), (.ref b252), (.ref b252)])) tg := by
              intro tg kt
              refine XS.dup X259.here hx rfl (hb hby at_194) rfl rfl ?_
              refine XS.iconst X259.here hx rfl (hb hby at_195) ?_
              refine XS.aload X259.here hx rfl (hb hby at_196) rfl rfl ?_
              refine XS.iconst X259.here hx rfl (hb hby at_198) ?_
              exact kt
            obtain ⟨cl266, Ar266, qa266, Sa266, Na266, Ha266, Ga266⟩ := id G261
            have hin266 : ¬ ((0 : Int32) < 0 ∨ cl266.slots.size ≤ ((0 : Int32)).toNatClampNeg) := inb_of Sa266 ⟨by decide, by decide⟩
            have hat266 : cl266.slots[((0 : Int32)).toNatClampNeg]? = some (.int (nar .char z7)) := Has.at Ha266 hin266 rfl
            have st268 : ∀ tg, Steps p.tables e below (T259.setTop (mkF m 200 #[.val (.int p1), .val (.int p2), .val (.int p3), .val (.int p4), .val (.int p5), .val (.int p6), .val (.int (4 : Int32)), .val (.ref b3), .unset, .unset] [(.int (nar .char z7)), (.int (0 : Int32)), (.ref b259), (.ref b259), (.ref b252), (.ref b252)])) tg → Steps p.tables e below (T259.setTop (mkF m 199 #[.val (.int p1), .val (.int p2), .val (.int p3), .val (.int p4), .val (.int p5), .val (.int p6), .val (.int (4 : Int32)), .val (.ref b3), .unset, .unset] [(.int (0 : Int32)), (.ref b3), (.int (0 : Int32)), (.ref b259), (.ref b259), (.ref b252), (.ref b252)])) tg := by
              intro tg kt
              refine X259.caload hx (j := (0 : Int32)) (v := (.int (nar .char z7))) (by rw [e259]; exact Ar266.1) (State.isArrayOf_alike hZ39.alike Ar266.2.1) Ar266.2.2 hin266 hat266 (g := (mkF m 199 #[.val (.int p1), .val (.int p2), .val (.int p3), .val (.int p4), .val (.int p5), .val (.int p6), .val (.int (4 : Int32)), .val (.ref b3), .unset, .unset] [(.int (0 : Int32)), (.ref b3), (.int (0 : Int32)), (.ref b259), (.ref b259), (.ref b252), (.ref b252)])) rfl rfl (hb hby at_199) _ ?_
              exact kt
            obtain ⟨cl269, Ar269, qa269, Sa269, Na269, Ha269, Ga269⟩ := id G265
            have hin269 : ¬ ((0 : Int32) < 0 ∨ cl269.slots.size ≤ ((0 : Int32)).toNatClampNeg) := inb_of Sa269 ⟨by decide, by decide⟩
            obtain ⟨T270, h270, X270, e270, W270, st270⟩ := stC X259 hx hZ39 e259 Ar269 (j := (0 : Int32)) hin269 (g := (mkF m 200 #[.val (.int p1), .val (.int p2), .val (.int p3), .val (.int p4), .val (.int p5), .val (.int p6), .val (.int (4 : Int32)), .val (.ref b3), .unset, .unset] [(.int (nar .char z7)), (.int (0 : Int32)), (.ref b259), (.ref b259), (.ref b252), (.ref b252)])) rfl rfl (hb hby at_200)
            have N270 := Fr.snoc X270 N43 g_b259
            have K270 : Keep h0 h270 [] := K259.wr W270 (Or.inr sz_b259)
            have Z270 : n0 ≤ h270.size := Nat.le_trans Z259 (Keep.of_wr W270).1
            have hks270 := Nat.le_trans hks259 (Keep.of_wr W270).1
            have CH270 := CHr.wr W270 (Safe.arr hZ39.alike Ar269 (by decide)) CH259.1
            have G271 : Old Z n0 h270 := G260.wr W270 g_b259
            have G272 : Arv Z h270 b3 k3 .char (5 : Int32) [(.int (nar .char z7)), (.int (nar .char z15)), (.int (nar .char z23)), (.int (nar .char z31)), (.int (nar .char z39))] (.int (0 : Int32)) := G261.other W270 ne_b3_b259
            have G273 : Exa Z h270 b252 "java/lang/String" := G262.wr W270
            have G274 : Fld Z h270 b252 "java/lang/String" "value" "[B" .null := G263.other W270 (Or.inl ne_b252_b259)
            have G275 : Fld Z h270 b252 "java/lang/String" "coder" "B" (.int (0 : Int32)) := G264.other W270 (Or.inl ne_b252_b259)
            have G276 : Arv Z h270 b259 k259 .char (4 : Int32) [(.int (nar .char (nar .char z7))), (.int (0 : Int32)), (.int (0 : Int32)), (.int (0 : Int32))] (.int (0 : Int32)) := Arv.set Ar269 qa269 Sa269 Na269 Ha269 Ga269 (fits_nar_char _) W270 0 rfl (Nat.le_of_ble_eq_true rfl)
            have st278 : ∀ tg, Steps p.tables e below (T270.setTop (mkF m 206 #[.val (.int p1), .val (.int p2), .val (.int p3), .val (.int p4), .val (.int p5), .val (.int p6), .val (.int (4 : Int32)), .val (.ref b3), .unset, .unset] [(.int (1 : Int32)), (.ref b3), (.int (1 : Int32)), (.ref b259), (.ref b259), (.ref b252), (.ref b252)])) tg → Steps p.tables e below (T270.setTop (mkF m 201 #[.val (.int p1), .val (.int p2), .val (.int p3), .val (.int p4), .val (.int p5), .val (.int p6), .val (.int (4 : Int32)), .val (.ref b3), .unset, .unset] [(.ref b259), (.ref b252), (.ref b252)])) tg := by
              intro tg kt
              refine XS.dup X270.here hx rfl (hb hby at_201) rfl rfl ?_
              refine XS.iconst X270.here hx rfl (hb hby at_202) ?_
              refine XS.aload X270.here hx rfl (hb hby at_203) rfl rfl ?_
              refine XS.iconst X270.here hx rfl (hb hby at_205) ?_
              exact kt
            obtain ⟨cl277, Ar277, qa277, Sa277, Na277, Ha277, Ga277⟩ := id G272
            have hin277 : ¬ ((1 : Int32) < 0 ∨ cl277.slots.size ≤ ((1 : Int32)).toNatClampNeg) := inb_of Sa277 ⟨by decide, by decide⟩
            have hat277 : cl277.slots[((1 : Int32)).toNatClampNeg]? = some (.int (nar .char z15)) := Has.at Ha277 hin277 rfl
            have st279 : ∀ tg, Steps p.tables e below (T270.setTop (mkF m 207 #[.val (.int p1), .val (.int p2), .val (.int p3), .val (.int p4), .val (.int p5), .val (.int p6), .val (.int (4 : Int32)), .val (.ref b3), .unset, .unset] [(.int (nar .char z15)), (.int (1 : Int32)), (.ref b259), (.ref b259), (.ref b252), (.ref b252)])) tg → Steps p.tables e below (T270.setTop (mkF m 206 #[.val (.int p1), .val (.int p2), .val (.int p3), .val (.int p4), .val (.int p5), .val (.int p6), .val (.int (4 : Int32)), .val (.ref b3), .unset, .unset] [(.int (1 : Int32)), (.ref b3), (.int (1 : Int32)), (.ref b259), (.ref b259), (.ref b252), (.ref b252)])) tg := by
              intro tg kt
              refine X270.caload hx (j := (1 : Int32)) (v := (.int (nar .char z15))) (by rw [e270]; exact Ar277.1) (State.isArrayOf_alike hZ39.alike Ar277.2.1) Ar277.2.2 hin277 hat277 (g := (mkF m 206 #[.val (.int p1), .val (.int p2), .val (.int p3), .val (.int p4), .val (.int p5), .val (.int p6), .val (.int (4 : Int32)), .val (.ref b3), .unset, .unset] [(.int (1 : Int32)), (.ref b3), (.int (1 : Int32)), (.ref b259), (.ref b259), (.ref b252), (.ref b252)])) rfl rfl (hb hby at_206) _ ?_
              exact kt
            obtain ⟨cl280, Ar280, qa280, Sa280, Na280, Ha280, Ga280⟩ := id G276
            have hin280 : ¬ ((1 : Int32) < 0 ∨ cl280.slots.size ≤ ((1 : Int32)).toNatClampNeg) := inb_of Sa280 ⟨by decide, by decide⟩
            obtain ⟨T281, h281, X281, e281, W281, st281⟩ := stC X270 hx hZ39 e270 Ar280 (j := (1 : Int32)) hin280 (g := (mkF m 207 #[.val (.int p1), .val (.int p2), .val (.int p3), .val (.int p4), .val (.int p5), .val (.int p6), .val (.int (4 : Int32)), .val (.ref b3), .unset, .unset] [(.int (nar .char z15)), (.int (1 : Int32)), (.ref b259), (.ref b259), (.ref b252), (.ref b252)])) rfl rfl (hb hby at_207)
            have N281 := Fr.snoc X281 N270 g_b259
            have K281 : Keep h0 h281 [] := K270.wr W281 (Or.inr sz_b259)
            have Z281 : n0 ≤ h281.size := Nat.le_trans Z270 (Keep.of_wr W281).1
            have hks281 := Nat.le_trans hks270 (Keep.of_wr W281).1
            have CH281 := CHr.wr W281 (Safe.arr hZ39.alike Ar280 (by decide)) CH270.1
            have G282 : Old Z n0 h281 := G271.wr W281 g_b259
            have G283 : Arv Z h281 b3 k3 .char (5 : Int32) [(.int (nar .char z7)), (.int (nar .char z15)), (.int (nar .char z23)), (.int (nar .char z31)), (.int (nar .char z39))] (.int (0 : Int32)) := G272.other W281 ne_b3_b259
            have G284 : Exa Z h281 b252 "java/lang/String" := G273.wr W281
            have G285 : Fld Z h281 b252 "java/lang/String" "value" "[B" .null := G274.other W281 (Or.inl ne_b252_b259)
            have G286 : Fld Z h281 b252 "java/lang/String" "coder" "B" (.int (0 : Int32)) := G275.other W281 (Or.inl ne_b252_b259)
            have G287 : Arv Z h281 b259 k259 .char (4 : Int32) [(.int (nar .char (nar .char z7))), (.int (nar .char (nar .char z15))), (.int (0 : Int32)), (.int (0 : Int32))] (.int (0 : Int32)) := Arv.set Ar280 qa280 Sa280 Na280 Ha280 Ga280 (fits_nar_char _) W281 1 rfl (Nat.le_of_ble_eq_true rfl)
            have st289 : ∀ tg, Steps p.tables e below (T281.setTop (mkF m 213 #[.val (.int p1), .val (.int p2), .val (.int p3), .val (.int p4), .val (.int p5), .val (.int p6), .val (.int (4 : Int32)), .val (.ref b3), .unset, .unset] [(.int (2 : Int32)), (.ref b3), (.int (2 : Int32)), (.ref b259), (.ref b259), (.ref b252), (.ref b252)])) tg → Steps p.tables e below (T281.setTop (mkF m 208 #[.val (.int p1), .val (.int p2), .val (.int p3), .val (.int p4), .val (.int p5), .val (.int p6), .val (.int (4 : Int32)), .val (.ref b3), .unset, .unset] [(.ref b259), (.ref b252), (.ref b252)])) tg := by
              intro tg kt
              refine XS.dup X281.here hx rfl (hb hby at_208) rfl rfl ?_
              refine XS.iconst X281.here hx rfl (hb hby at_209) ?_
              refine XS.aload X281.here hx rfl (hb hby at_210) rfl rfl ?_
              refine XS.iconst X281.here hx rfl (hb hby at_212) ?_
              exact kt
            obtain ⟨cl288, Ar288, qa288, Sa288, Na288, Ha288, Ga288⟩ := id G283
            have hin288 : ¬ ((2 : Int32) < 0 ∨ cl288.slots.size ≤ ((2 : Int32)).toNatClampNeg) := inb_of Sa288 ⟨by decide, by decide⟩
            have hat288 : cl288.slots[((2 : Int32)).toNatClampNeg]? = some (.int (nar .char z23)) := Has.at Ha288 hin288 rfl
            have st290 : ∀ tg, Steps p.tables e below (T281.setTop (mkF m 214 #[.val (.int p1), .val (.int p2), .val (.int p3), .val (.int p4), .val (.int p5), .val (.int p6), .val (.int (4 : Int32)), .val (.ref b3), .unset, .unset] [(.int (nar .char z23)), (.int (2 : Int32)), (.ref b259), (.ref b259), (.ref b252), (.ref b252)])) tg → Steps p.tables e below (T281.setTop (mkF m 213 #[.val (.int p1), .val (.int p2), .val (.int p3), .val (.int p4), .val (.int p5), .val (.int p6), .val (.int (4 : Int32)), .val (.ref b3), .unset, .unset] [(.int (2 : Int32)), (.ref b3), (.int (2 : Int32)), (.ref b259), (.ref b259), (.ref b252), (.ref b252)])) tg := by
              intro tg kt
              refine X281.caload hx (j := (2 : Int32)) (v := (.int (nar .char z23))) (by rw [e281]; exact Ar288.1) (State.isArrayOf_alike hZ39.alike Ar288.2.1) Ar288.2.2 hin288 hat288 (g := (mkF m 213 #[.val (.int p1), .val (.int p2), .val (.int p3), .val (.int p4), .val (.int p5), .val (.int p6), .val (.int (4 : Int32)), .val (.ref b3), .unset, .unset] [(.int (2 : Int32)), (.ref b3), (.int (2 : Int32)), (.ref b259), (.ref b259), (.ref b252), (.ref b252)])) rfl rfl (hb hby at_213) _ ?_
              exact kt
            obtain ⟨cl291, Ar291, qa291, Sa291, Na291, Ha291, Ga291⟩ := id G287
            have hin291 : ¬ ((2 : Int32) < 0 ∨ cl291.slots.size ≤ ((2 : Int32)).toNatClampNeg) := inb_of Sa291 ⟨by decide, by decide⟩
            obtain ⟨T292, h292, X292, e292, W292, st292⟩ := stC X281 hx hZ39 e281 Ar291 (j := (2 : Int32)) hin291 (g := (mkF m 214 #[.val (.int p1), .val (.int p2), .val (.int p3), .val (.int p4), .val (.int p5), .val (.int p6), .val (.int (4 : Int32)), .val (.ref b3), .unset, .unset] [(.int (nar .char z23)), (.int (2 : Int32)), (.ref b259), (.ref b259), (.ref b252), (.ref b252)])) rfl rfl (hb hby at_214)
            have N292 := Fr.snoc X292 N281 g_b259
            have K292 : Keep h0 h292 [] := K281.wr W292 (Or.inr sz_b259)
            have Z292 : n0 ≤ h292.size := Nat.le_trans Z281 (Keep.of_wr W292).1
            have hks292 := Nat.le_trans hks281 (Keep.of_wr W292).1
            have CH292 := CHr.wr W292 (Safe.arr hZ39.alike Ar291 (by decide)) CH281.1
            have G293 : Old Z n0 h292 := G282.wr W292 g_b259
            have G294 : Arv Z h292 b3 k3 .char (5 : Int32) [(.int (nar .char z7)), (.int (nar .char z15)), (.int (nar .char z23)), (.int (nar .char z31)), (.int (nar .char z39))] (.int (0 : Int32)) := G283.other W292 ne_b3_b259
            have G295 : Exa Z h292 b252 "java/lang/String" := G284.wr W292
            have G296 : Fld Z h292 b252 "java/lang/String" "value" "[B" .null := G285.other W292 (Or.inl ne_b252_b259)
            have G297 : Fld Z h292 b252 "java/lang/String" "coder" "B" (.int (0 : Int32)) := G286.other W292 (Or.inl ne_b252_b259)
            have G298 : Arv Z h292 b259 k259 .char (4 : Int32) [(.int (nar .char (nar .char z7))), (.int (nar .char (nar .char z15))), (.int (nar .char (nar .char z23))), (.int (0 : Int32))] (.int (0 : Int32)) := Arv.set Ar291 qa291 Sa291 Na291 Ha291 Ga291 (fits_nar_char _) W292 2 rfl (Nat.le_of_ble_eq_true rfl)
            have st300 : ∀ tg, Steps p.tables e below (T292.setTop (mkF m 220 #[.val (.int p1), .val (.int p2), .val (.int p3), .val (.int p4), .val (.int p5), .val (.int p6), .val (.int (4 : Int32)), .val (.ref b3), .unset, .unset] [(.int (3 : Int32)), (.ref b3), (.int (3 : Int32)), (.ref b259), (.ref b259), (.ref b252), (.ref b252)])) tg → Steps p.tables e below (T292.setTop (mkF m 215 #[.val (.int p1), .val (.int p2), .val (.int p3), .val (.int p4), .val (.int p5), .val (.int p6), .val (.int (4 : Int32)), .val (.ref b3), .unset, .unset] [(.ref b259), (.ref b252), (.ref b252)])) tg := by
              intro tg kt
              refine XS.dup X292.here hx rfl (hb hby at_215) rfl rfl ?_
              refine XS.iconst X292.here hx rfl (hb hby at_216) ?_
              refine XS.aload X292.here hx rfl (hb hby at_217) rfl rfl ?_
              refine XS.iconst X292.here hx rfl (hb hby at_219) ?_
              exact kt
            obtain ⟨cl299, Ar299, qa299, Sa299, Na299, Ha299, Ga299⟩ := id G294
            have hin299 : ¬ ((3 : Int32) < 0 ∨ cl299.slots.size ≤ ((3 : Int32)).toNatClampNeg) := inb_of Sa299 ⟨by decide, by decide⟩
            have hat299 : cl299.slots[((3 : Int32)).toNatClampNeg]? = some (.int (nar .char z31)) := Has.at Ha299 hin299 rfl
            have st301 : ∀ tg, Steps p.tables e below (T292.setTop (mkF m 221 #[.val (.int p1), .val (.int p2), .val (.int p3), .val (.int p4), .val (.int p5), .val (.int p6), .val (.int (4 : Int32)), .val (.ref b3), .unset, .unset] [(.int (nar .char z31)), (.int (3 : Int32)), (.ref b259), (.ref b259), (.ref b252), (.ref b252)])) tg → Steps p.tables e below (T292.setTop (mkF m 220 #[.val (.int p1), .val (.int p2), .val (.int p3), .val (.int p4), .val (.int p5), .val (.int p6), .val (.int (4 : Int32)), .val (.ref b3), .unset, .unset] [(.int (3 : Int32)), (.ref b3), (.int (3 : Int32)), (.ref b259), (.ref b259), (.ref b252), (.ref b252)])) tg := by
              intro tg kt
              refine X292.caload hx (j := (3 : Int32)) (v := (.int (nar .char z31))) (by rw [e292]; exact Ar299.1) (State.isArrayOf_alike hZ39.alike Ar299.2.1) Ar299.2.2 hin299 hat299 (g := (mkF m 220 #[.val (.int p1), .val (.int p2), .val (.int p3), .val (.int p4), .val (.int p5), .val (.int p6), .val (.int (4 : Int32)), .val (.ref b3), .unset, .unset] [(.int (3 : Int32)), (.ref b3), (.int (3 : Int32)), (.ref b259), (.ref b259), (.ref b252), (.ref b252)])) rfl rfl (hb hby at_220) _ ?_
              exact kt
            obtain ⟨cl302, Ar302, qa302, Sa302, Na302, Ha302, Ga302⟩ := id G298
            have hin302 : ¬ ((3 : Int32) < 0 ∨ cl302.slots.size ≤ ((3 : Int32)).toNatClampNeg) := inb_of Sa302 ⟨by decide, by decide⟩
            obtain ⟨T303, h303, X303, e303, W303, st303⟩ := stC X292 hx hZ39 e292 Ar302 (j := (3 : Int32)) hin302 (g := (mkF m 221 #[.val (.int p1), .val (.int p2), .val (.int p3), .val (.int p4), .val (.int p5), .val (.int p6), .val (.int (4 : Int32)), .val (.ref b3), .unset, .unset] [(.int (nar .char z31)), (.int (3 : Int32)), (.ref b259), (.ref b259), (.ref b252), (.ref b252)])) rfl rfl (hb hby at_221)
            have N303 := Fr.snoc X303 N292 g_b259
            have K303 : Keep h0 h303 [] := K292.wr W303 (Or.inr sz_b259)
            have Z303 : n0 ≤ h303.size := Nat.le_trans Z292 (Keep.of_wr W303).1
            have hks303 := Nat.le_trans hks292 (Keep.of_wr W303).1
            have CH303 := CHr.wr W303 (Safe.arr hZ39.alike Ar302 (by decide)) CH292.1
            have G304 : Old Z n0 h303 := G293.wr W303 g_b259
            have G305 : Arv Z h303 b3 k3 .char (5 : Int32) [(.int (nar .char z7)), (.int (nar .char z15)), (.int (nar .char z23)), (.int (nar .char z31)), (.int (nar .char z39))] (.int (0 : Int32)) := G294.other W303 ne_b3_b259
            have G306 : Exa Z h303 b252 "java/lang/String" := G295.wr W303
            have G307 : Fld Z h303 b252 "java/lang/String" "value" "[B" .null := G296.other W303 (Or.inl ne_b252_b259)
            have G308 : Fld Z h303 b252 "java/lang/String" "coder" "B" (.int (0 : Int32)) := G297.other W303 (Or.inl ne_b252_b259)
            have G309 : Arv Z h303 b259 k259 .char (4 : Int32) [(.int (nar .char (nar .char z7))), (.int (nar .char (nar .char z15))), (.int (nar .char (nar .char z23))), (.int (nar .char (nar .char z31)))] (.int (0 : Int32)) := Arv.set Ar302 qa302 Sa302 Na302 Ha302 Ga302 (fits_nar_char _) W303 3 rfl (Nat.le_of_ble_eq_true rfl)
            obtain ⟨_, _, ⟨T310, L310, k310, n310⟩, -, X310, ⟨Lc310, hQ310, l310, y310, z310⟩, st310⟩ := X303.specialBack hx (y := (⟨"java/lang/String", "<init>", "([C)V"⟩ : MethodName)) rfl hown39 (mvT hZ39 (hw _ (List.mem_of_getElem? (i := 41) rfl))) (mvT hZ39 (hw _ (List.mem_of_getElem? (i := 42) rfl))) (mvT hZ39 (hw _ (List.mem_of_getElem? (i := 43) rfl))) (by decide) (backOf (W := 1) (rm7 l Z a0 hw [] b252 b259 4 CF wc h303 n0 Z303 G304 S_c hwc S_a S_h S_l (by decide) (by decide) (fun t _ => hCc t) G306 G307 G308 (ArF.of_arv G309 (by decide) (fun i hi => match i, hi with | 0, _ => (by rw [hC0]; exact congrArg Value.int (own_nn2 _)) | 1, _ => (by rw [hC1]; exact congrArg Value.int (own_nn2 _)) | 2, _ => (by rw [hC2]; exact congrArg Value.int (own_nn2 _)) | 3, _ => (by rw [hC3]; exact congrArg Value.int (own_nn2 _)) | k + 4, hk => absurd hk (by omega))) g_b252 (Ne.symm ne_b252_b259)) hZ39 (hw _ (List.mem_of_getElem? (i := 43) rfl)) (hw _ (List.mem_of_getElem? (i := 8) rfl)) (by decide) (by decide)) (g := (mkF m 222 #[.val (.int p1), .val (.int p2), .val (.int p3), .val (.int p4), .val (.int p5), .val (.int p6), .val (.int (4 : Int32)), .val (.ref b3), .unset, .unset] [(.ref b259), (.ref b252), (.ref b252)])) rfl (by rw [hml]; rfl) (Steps.refl _) (a := b252) (argsL := [(.ref b259)]) (rest := [(.ref b252)]) (lenOf pd_26 rfl) rfl (by show 2 * 0 + _ ≤ _; exact Nat.le_of_eq rfl) (hb hby at_222) (fun _ _ => ⟨rfl, e303, (by decide : 13 + 2 ≤ _), (by decide : 473 + 15 ≤ _)⟩)
            dsimp only [Pt.U, Pt.locs, Pt.cells, Pt.slots] at X310 l310 y310 z310 st310 hQ310
            subst l310 y310 z310
            obtain ⟨rfl, N310q, K310q, S310q⟩ := hQ310
            have N310 := Fr.app N303 N310q
            have G311 : Old Z n0 T310.heap := G304.keep K310q (allS g_b252 (all0))
            have G312 : Arv Z T310.heap b3 k3 .char (5 : Int32) [(.int (nar .char z7)), (.int (nar .char z15)), (.int (nar .char z23)), (.int (nar .char z31)), (.int (nar .char z39))] (.int (0 : Int32)) := G305.keep K310q (ninS ne_b3_b252 (nin0))
            have G313 : Exa Z T310.heap b252 "java/lang/String" := G306.keep K310q
            have G314 : Arv Z T310.heap b259 k259 .char (4 : Int32) [(.int (nar .char (nar .char z7))), (.int (nar .char (nar .char z15))), (.int (nar .char (nar .char z23))), (.int (nar .char (nar .char z31)))] (.int (0 : Int32)) := G309.keep K310q (ninS (Ne.symm ne_b252_b259) (nin0))
            have K310 : Keep h0 T310.heap [] := K303.trans K310q (allS (Or.inr sz_b252) all0)
            have Z310 : n0 ≤ T310.heap.size := Nat.le_trans Z303 K310q.1
            have hks310 := Nat.le_trans hks303 K310q.1
            have st315 : ∀ tg, Steps p.tables e below (T310.setTop (mkF m 277 #[.val (.int p1), .val (.int p2), .val (.int p3), .val (.int p4), .val (.int p5), .val (.int p6), .val (.int (4 : Int32)), .val (.ref b3), .val (.ref b252), .unset] [])) tg → Steps p.tables e below (T310.setTop (mkF m 225 #[.val (.int p1), .val (.int p2), .val (.int p3), .val (.int p4), .val (.int p5), .val (.int p6), .val (.int (4 : Int32)), .val (.ref b3), .unset, .unset] [(.ref b252)])) tg := by
              intro tg kt
              refine XS.astore X310.here hx rfl (hb hby at_225) rfl rfl (l' := #[.val (.int p1), .val (.int p2), .val (.int p3), .val (.int p4), .val (.int p5), .val (.int p6), .val (.int (4 : Int32)), .val (.ref b3), .val (.ref b252), .unset]) rfl ?_
              refine XS.goto X310.here hx rfl (pc0 := 227) (pc' := 277) rfl (hb hby at_227) (by decide) (by decide) ?_
              exact kt
            refine tail 4 b252 _ _ _ _ (by decide) S310q (ArF.of_arv G312 (by decide) (fun i hi => match i, hi with | 0, _ => congrArg Value.int hC0.symm | 1, _ => congrArg Value.int hC1.symm | 2, _ => congrArg Value.int hC2.symm | 3, _ => congrArg Value.int hC3.symm | 4, _ => congrArg Value.int hC4.symm | k + 5, hk => absurd hk (by omega))) G311 Z310 hZ39 hown39 hS39 hks310 N310 (X310.more (by decide) (by decide)) (fun tg kt => ?_)
            refine pre0 _ ?_
            refine st1 _ ?_
            refine st2 _ ?_
            show Steps p.tables e below (s₁.setTop (mkF m 10 #[.val (.int p1), .val (.int p2), .val (.int p3), .val (.int p4), .val (.int p5), .val (.int p6), .val (.int kn), .unset, .unset, .unset] [(.int (5 : Int32))])) _
            refine st3 _ ?_
            refine st6 _ ?_
            show Steps p.tables e below (T3.setTop (mkF m 18 #[.val (.int p1), .val (.int p2), .val (.int p3), .val (.int p4), .val (.int p5), .val (.int p6), .val (.int kn), .val (.ref b3), .unset, .unset] [(.int p2), (.int (0 : Int32)), (.ref b3)])) _
            refine st7.trans ?_
            show Steps p.tables e below (T7.setTop (mkF m 21 #[.val (.int p1), .val (.int p2), .val (.int p3), .val (.int p4), .val (.int p5), .val (.int p6), .val (.int kn), .val (.ref b3), .unset, .unset] [(.int z7), (.int (0 : Int32)), (.ref b3)])) _
            refine st11 _ ?_
            refine st14 _ ?_
            show Steps p.tables e below (T11.setTop (mkF m 26 #[.val (.int p1), .val (.int p2), .val (.int p3), .val (.int p4), .val (.int p5), .val (.int p6), .val (.int kn), .val (.ref b3), .unset, .unset] [(.int p3), (.int (1 : Int32)), (.ref b3)])) _
            refine st15.trans ?_
            show Steps p.tables e below (T15.setTop (mkF m 29 #[.val (.int p1), .val (.int p2), .val (.int p3), .val (.int p4), .val (.int p5), .val (.int p6), .val (.int kn), .val (.ref b3), .unset, .unset] [(.int z15), (.int (1 : Int32)), (.ref b3)])) _
            refine st19 _ ?_
            refine st22 _ ?_
            show Steps p.tables e below (T19.setTop (mkF m 34 #[.val (.int p1), .val (.int p2), .val (.int p3), .val (.int p4), .val (.int p5), .val (.int p6), .val (.int kn), .val (.ref b3), .unset, .unset] [(.int p4), (.int (2 : Int32)), (.ref b3)])) _
            refine st23.trans ?_
            show Steps p.tables e below (T23.setTop (mkF m 37 #[.val (.int p1), .val (.int p2), .val (.int p3), .val (.int p4), .val (.int p5), .val (.int p6), .val (.int kn), .val (.ref b3), .unset, .unset] [(.int z23), (.int (2 : Int32)), (.ref b3)])) _
            refine st27 _ ?_
            refine st30 _ ?_
            show Steps p.tables e below (T27.setTop (mkF m 43 #[.val (.int p1), .val (.int p2), .val (.int p3), .val (.int p4), .val (.int p5), .val (.int p6), .val (.int kn), .val (.ref b3), .unset, .unset] [(.int p5), (.int (3 : Int32)), (.ref b3)])) _
            refine st31.trans ?_
            show Steps p.tables e below (T31.setTop (mkF m 46 #[.val (.int p1), .val (.int p2), .val (.int p3), .val (.int p4), .val (.int p5), .val (.int p6), .val (.int kn), .val (.ref b3), .unset, .unset] [(.int z31), (.int (3 : Int32)), (.ref b3)])) _
            refine st35 _ ?_
            refine st38 _ ?_
            show Steps p.tables e below (T35.setTop (mkF m 52 #[.val (.int p1), .val (.int p2), .val (.int p3), .val (.int p4), .val (.int p5), .val (.int p6), .val (.int kn), .val (.ref b3), .unset, .unset] [(.int p6), (.int (4 : Int32)), (.ref b3)])) _
            refine st39.trans ?_
            show Steps p.tables e below (T39.setTop (mkF m 55 #[.val (.int p1), .val (.int p2), .val (.int p3), .val (.int p4), .val (.int p5), .val (.int p6), .val (.int kn), .val (.ref b3), .unset, .unset] [(.int z39), (.int (4 : Int32)), (.ref b3)])) _
            refine st43 _ ?_
            refine st92 _ ?_
            refine st115 _ ?_
            refine st149 _ ?_
            refine st194 _ ?_
            refine st250 _ ?_
            refine st251 _ ?_
            show Steps p.tables e below (T43.setTop (mkF m 187 #[.val (.int p1), .val (.int p2), .val (.int p3), .val (.int p4), .val (.int p5), .val (.int p6), .val (.int kn), .val (.ref b3), .unset, .unset] [])) _
            rw [hc184_249]
            show Steps p.tables e below (T43.setTop (mkF m 187 #[.val (.int p1), .val (.int p2), .val (.int p3), .val (.int p4), .val (.int p5), .val (.int p6), .val (.int (4 : Int32)), .val (.ref b3), .unset, .unset] [])) _
            refine st252 _ ?_
            refine st258 _ ?_
            show Steps p.tables e below (T252.setTop (mkF m 192 #[.val (.int p1), .val (.int p2), .val (.int p3), .val (.int p4), .val (.int p5), .val (.int p6), .val (.int (4 : Int32)), .val (.ref b3), .unset, .unset] [(.int (4 : Int32)), (.ref b252), (.ref b252)])) _
            refine st259 _ ?_
            refine st267 _ ?_
            refine st268 _ ?_
            show Steps p.tables e below (T259.setTop (mkF m 200 #[.val (.int p1), .val (.int p2), .val (.int p3), .val (.int p4), .val (.int p5), .val (.int p6), .val (.int (4 : Int32)), .val (.ref b3), .unset, .unset] [(.int (nar .char z7)), (.int (0 : Int32)), (.ref b259), (.ref b259), (.ref b252), (.ref b252)])) _
            refine st270 _ ?_
            refine st278 _ ?_
            refine st279 _ ?_
            show Steps p.tables e below (T270.setTop (mkF m 207 #[.val (.int p1), .val (.int p2), .val (.int p3), .val (.int p4), .val (.int p5), .val (.int p6), .val (.int (4 : Int32)), .val (.ref b3), .unset, .unset] [(.int (nar .char z15)), (.int (1 : Int32)), (.ref b259), (.ref b259), (.ref b252), (.ref b252)])) _
            refine st281 _ ?_
            refine st289 _ ?_
            refine st290 _ ?_
            show Steps p.tables e below (T281.setTop (mkF m 214 #[.val (.int p1), .val (.int p2), .val (.int p3), .val (.int p4), .val (.int p5), .val (.int p6), .val (.int (4 : Int32)), .val (.ref b3), .unset, .unset] [(.int (nar .char z23)), (.int (2 : Int32)), (.ref b259), (.ref b259), (.ref b252), (.ref b252)])) _
            refine st292 _ ?_
            refine st300 _ ?_
            refine st301 _ ?_
            show Steps p.tables e below (T292.setTop (mkF m 221 #[.val (.int p1), .val (.int p2), .val (.int p3), .val (.int p4), .val (.int p5), .val (.int p6), .val (.int (4 : Int32)), .val (.ref b3), .unset, .unset] [(.int (nar .char z31)), (.int (3 : Int32)), (.ref b259), (.ref b259), (.ref b252), (.ref b252)])) _
            refine st303 _ ?_
            show Steps p.tables e below (T303.setTop (mkF m 222 #[.val (.int p1), .val (.int p2), .val (.int p3), .val (.int p4), .val (.int p5), .val (.int p6), .val (.int (4 : Int32)), .val (.ref b3), .unset, .unset] [(.ref b259), (.ref b252), (.ref b252)])) _
            refine st310.trans ?_
            refine st315 _ ?_
            exact kt
          · -- pc 184: not kn = (4 : Int32)
            have st316 : ∀ tg, Steps p.tables e below (T43.setTop (mkF m 230 #[.val (.int p1), .val (.int p2), .val (.int p3), .val (.int p4), .val (.int p5), .val (.int p6), .val (.int kn), .val (.ref b3), .unset, .unset] [])) tg → Steps p.tables e below (T43.setTop (mkF m 184 #[.val (.int p1), .val (.int p2), .val (.int p3), .val (.int p4), .val (.int p5), .val (.int p6), .val (.int kn), .val (.ref b3), .unset, .unset] [(.int (4 : Int32)), (.int kn)])) tg := by
              intro tg kt
              refine XS.icmpYes X43.here hx rfl (pc0 := 184) (pc' := 230) rfl (hb hby at_184) rfl (XT.ii_ne_t hc184_249) (by decide) (by decide) ?_
              exact kt
            have hk5 : kn = (5 : Int32) := own_k5 hkn hc58_91 hc79_114 hc107_148 hc142_193 hc184_249
            obtain ⟨T317, h317, X317, e317, E317, A317, D317, -, st317⟩ := newO X43 hx hZ39 hown39 (hw _ (List.mem_of_getElem? (i := 40) rfl)) (hw _ (List.mem_of_getElem? (i := 9) rfl)) (hw _ (List.mem_of_getElem? (i := 8) rfl)) e43 (g := (mkF m 230 #[.val (.int p1), .val (.int p2), .val (.int p3), .val (.int p4), .val (.int p5), .val (.int p6), .val (.int (5 : Int32)), .val (.ref b3), .unset, .unset] [])) rfl (hb hby at_230) (by decide) (by decide)
            obtain ⟨b317, gz317⟩ : ∃ z, z = h43.size := ⟨_, rfl⟩
            rw [← gz317] at A317 D317 st317
            have ne_b3_b317 : b3 ≠ b317 := Nat.ne_of_lt (Nat.lt_of_lt_of_le G45.lt (Nat.le_of_eq gz317.symm))
            have g_b317 : n0 ≤ b317 := Nat.le_trans Z43 (Nat.le_of_eq gz317.symm)
            have sz_b317 : h0.size ≤ b317 := Nat.le_trans K43.1 (Nat.le_of_eq gz317.symm)
            have G318 : Old Z n0 h317 := G44.ext E317
            have G319 : Arv Z h317 b3 k3 .char (5 : Int32) [(.int (nar .char z7)), (.int (nar .char z15)), (.int (nar .char z23)), (.int (nar .char z31)), (.int (nar .char z39))] (.int (0 : Int32)) := G45.ext E317
            have K317 : Keep h0 h317 [] := K43.ext E317
            have Z317 : n0 ≤ h317.size := Nat.le_trans Z43 E317.1
            have hks317 := Nat.le_trans hks43 E317.1
            have CH317 := CHr.ext E317 CH43.1
            have G320 : Exa Z h317 b317 "java/lang/String" := A317
            have G321 : Fld Z h317 b317 "java/lang/String" "value" "[B" .null := D317 (Or.inr (hw _ (List.mem_of_getElem? (i := 11) rfl))) (ty := (.array .byte)) (by decide)
            have G322 : Fld Z h317 b317 "java/lang/String" "coder" "B" (.int (0 : Int32)) := D317 (Or.inr (hw _ (List.mem_of_getElem? (i := 12) rfl))) (ty := .byte) (by decide)
            have st323 : ∀ tg, Steps p.tables e below (T317.setTop (mkF m 235 #[.val (.int p1), .val (.int p2), .val (.int p3), .val (.int p4), .val (.int p5), .val (.int p6), .val (.int (5 : Int32)), .val (.ref b3), .unset, .unset] [(.int (5 : Int32)), (.ref b317), (.ref b317)])) tg → Steps p.tables e below (T317.setTop (mkF m 233 #[.val (.int p1), .val (.int p2), .val (.int p3), .val (.int p4), .val (.int p5), .val (.int p6), .val (.int (5 : Int32)), .val (.ref b3), .unset, .unset] [(.ref b317)])) tg := by
              intro tg kt
              refine XS.dup X317.here hx rfl (hb hby at_233) rfl rfl ?_
              refine XS.iconst X317.here hx rfl (hb hby at_234) ?_
              exact kt
            obtain ⟨T324, h324, k324, X324, e324, E324, A324, st324⟩ := newP X317 hx hZ39 (hw _ (List.mem_of_getElem? (i := 1) rfl)) e317 (g := (mkF m 235 #[.val (.int p1), .val (.int p2), .val (.int p3), .val (.int p4), .val (.int p5), .val (.int p6), .val (.int (5 : Int32)), .val (.ref b3), .unset, .unset] [(.int (5 : Int32)), (.ref b317), (.ref b317)])) rfl (hb hby at_235) rfl (by decide) (cap := 5) (by decide) (by decide) (by decide) (by decide)
            obtain ⟨b324, gz324⟩ : ∃ z, z = h317.size := ⟨_, rfl⟩
            rw [← gz324] at A324 st324
            have ne_b3_b324 : b3 ≠ b324 := Nat.ne_of_lt (Nat.lt_of_lt_of_le G319.lt (Nat.le_of_eq gz324.symm))
            have ne_b317_b324 : b317 ≠ b324 := Nat.ne_of_lt (Nat.lt_of_lt_of_le G320.lt (Nat.le_of_eq gz324.symm))
            have g_b324 : n0 ≤ b324 := Nat.le_trans Z317 (Nat.le_of_eq gz324.symm)
            have sz_b324 : h0.size ≤ b324 := Nat.le_trans K317.1 (Nat.le_of_eq gz324.symm)
            have G325 : Old Z n0 h324 := G318.ext E324
            have G326 : Arv Z h324 b3 k3 .char (5 : Int32) [(.int (nar .char z7)), (.int (nar .char z15)), (.int (nar .char z23)), (.int (nar .char z31)), (.int (nar .char z39))] (.int (0 : Int32)) := G319.ext E324
            have G327 : Exa Z h324 b317 "java/lang/String" := G320.ext E324
            have G328 : Fld Z h324 b317 "java/lang/String" "value" "[B" .null := G321.ext E324
            have G329 : Fld Z h324 b317 "java/lang/String" "coder" "B" (.int (0 : Int32)) := G322.ext E324
            have K324 : Keep h0 h324 [] := K317.ext E324
            have Z324 : n0 ≤ h324.size := Nat.le_trans Z317 E324.1
            have hks324 := Nat.le_trans hks317 E324.1
            have CH324 := CHr.ext E324 CH317.1
            have G330 : Arv Z h324 b324 k324 .char (5 : Int32) [(.int (0 : Int32)), (.int (0 : Int32)), (.int (0 : Int32)), (.int (0 : Int32)), (.int (0 : Int32))] (.int (0 : Int32)) := (Arv.new A324 (by decide)).pad (pad_rep [] (.int (0 : Int32)) 5)
            have st332 : ∀ tg, Steps p.tables e below (T324.setTop (mkF m 242 #[.val (.int p1), .val (.int p2), .val (.int p3), .val (.int p4), .val (.int p5), .val (.int p6), .val (.int (5 : Int32)), .val (.ref b3), .unset, .unset] [(.int (0 : Int32)), (.ref b3), (.int (0 : Int32)), (.ref b324), (.ref b324), (.ref b317), (.ref b317)])) tg → Steps p.tables e below (T324.setTop (mkF m 237 #[.val (.int p1), .val (.int p2), .val (.int p3), .val (.int p4), .val (.int p5), .val (.int p6), .val (.int (5 : Int32)), .val (.ref b3), .unset, .unset] [(.ref b324), (.ref b317), (.ref b317)])) tg := by
              intro tg kt
              refine XS.dup X324.here hx rfl (hb hby at_237) rfl rfl ?_
              refine XS.iconst X324.here hx rfl (hb hby at_238) ?_
              refine XS.aload X324.here hx rfl (hb hby at_239) rfl rfl ?_
              refine XS.iconst X324.here hx rfl (hb hby at_241) ?_
              exact kt
            obtain ⟨cl331, Ar331, qa331, Sa331, Na331, Ha331, Ga331⟩ := id G326
            have hin331 : ¬ ((0 : Int32) < 0 ∨ cl331.slots.size ≤ ((0 : Int32)).toNatClampNeg) := inb_of Sa331 ⟨by decide, by decide⟩
            have hat331 : cl331.slots[((0 : Int32)).toNatClampNeg]? = some (.int (nar .char z7)) := Has.at Ha331 hin331 rfl
            have st333 : ∀ tg, Steps p.tables e below (T324.setTop (mkF m 243 #[.val (.int p1), .val (.int p2), .val (.int p3), .val (.int p4), .val (.int p5), .val (.int p6), .val (.int (5 : Int32)), .val (.ref b3), .unset, .unset] [(.int (nar .char z7)), (.int (0 : Int32)), (.ref b324), (.ref b324), (.ref b317), (.ref b317)])) tg → Steps p.tables e below (T324.setTop (mkF m 242 #[.val (.int p1), .val (.int p2), .val (.int p3), .val (.int p4), .val (.int p5), .val (.int p6), .val (.int (5 : Int32)), .val (.ref b3), .unset, .unset] [(.int (0 : Int32)), (.ref b3), (.int (0 : Int32)), (.ref b324), (.ref b324), (.ref b317), (.ref b317)])) tg := by
              intro tg kt
              refine X324.caload hx (j := (0 : Int32)) (v := (.int (nar .char z7))) (by rw [e324]; exact Ar331.1) (State.isArrayOf_alike hZ39.alike Ar331.2.1) Ar331.2.2 hin331 hat331 (g := (mkF m 242 #[.val (.int p1), .val (.int p2), .val (.int p3), .val (.int p4), .val (.int p5), .val (.int p6), .val (.int (5 : Int32)), .val (.ref b3), .unset, .unset] [(.int (0 : Int32)), (.ref b3), (.int (0 : Int32)), (.ref b324), (.ref b324), (.ref b317), (.ref b317)])) rfl rfl (hb hby at_242) _ ?_
              exact kt
            obtain ⟨cl334, Ar334, qa334, Sa334, Na334, Ha334, Ga334⟩ := id G330
            have hin334 : ¬ ((0 : Int32) < 0 ∨ cl334.slots.size ≤ ((0 : Int32)).toNatClampNeg) := inb_of Sa334 ⟨by decide, by decide⟩
            obtain ⟨T335, h335, X335, e335, W335, st335⟩ := stC X324 hx hZ39 e324 Ar334 (j := (0 : Int32)) hin334 (g := (mkF m 243 #[.val (.int p1), .val (.int p2), .val (.int p3), .val (.int p4), .val (.int p5), .val (.int p6), .val (.int (5 : Int32)), .val (.ref b3), .unset, .unset] [(.int (nar .char z7)), (.int (0 : Int32)), (.ref b324), (.ref b324), (.ref b317), (.ref b317)])) rfl rfl (hb hby at_243)
            have N335 := Fr.snoc X335 N43 g_b324
            have K335 : Keep h0 h335 [] := K324.wr W335 (Or.inr sz_b324)
            have Z335 : n0 ≤ h335.size := Nat.le_trans Z324 (Keep.of_wr W335).1
            have hks335 := Nat.le_trans hks324 (Keep.of_wr W335).1
            have CH335 := CHr.wr W335 (Safe.arr hZ39.alike Ar334 (by decide)) CH324.1
            have G336 : Old Z n0 h335 := G325.wr W335 g_b324
            have G337 : Arv Z h335 b3 k3 .char (5 : Int32) [(.int (nar .char z7)), (.int (nar .char z15)), (.int (nar .char z23)), (.int (nar .char z31)), (.int (nar .char z39))] (.int (0 : Int32)) := G326.other W335 ne_b3_b324
            have G338 : Exa Z h335 b317 "java/lang/String" := G327.wr W335
            have G339 : Fld Z h335 b317 "java/lang/String" "value" "[B" .null := G328.other W335 (Or.inl ne_b317_b324)
            have G340 : Fld Z h335 b317 "java/lang/String" "coder" "B" (.int (0 : Int32)) := G329.other W335 (Or.inl ne_b317_b324)
            have G341 : Arv Z h335 b324 k324 .char (5 : Int32) [(.int (nar .char (nar .char z7))), (.int (0 : Int32)), (.int (0 : Int32)), (.int (0 : Int32)), (.int (0 : Int32))] (.int (0 : Int32)) := Arv.set Ar334 qa334 Sa334 Na334 Ha334 Ga334 (fits_nar_char _) W335 0 rfl (Nat.le_of_ble_eq_true rfl)
            have st343 : ∀ tg, Steps p.tables e below (T335.setTop (mkF m 249 #[.val (.int p1), .val (.int p2), .val (.int p3), .val (.int p4), .val (.int p5), .val (.int p6), .val (.int (5 : Int32)), .val (.ref b3), .unset, .unset] [(.int (1 : Int32)), (.ref b3), (.int (1 : Int32)), (.ref b324), (.ref b324), (.ref b317), (.ref b317)])) tg → Steps p.tables e below (T335.setTop (mkF m 244 #[.val (.int p1), .val (.int p2), .val (.int p3), .val (.int p4), .val (.int p5), .val (.int p6), .val (.int (5 : Int32)), .val (.ref b3), .unset, .unset] [(.ref b324), (.ref b317), (.ref b317)])) tg := by
              intro tg kt
              refine XS.dup X335.here hx rfl (hb hby at_244) rfl rfl ?_
              refine XS.iconst X335.here hx rfl (hb hby at_245) ?_
              refine XS.aload X335.here hx rfl (hb hby at_246) rfl rfl ?_
              refine XS.iconst X335.here hx rfl (hb hby at_248) ?_
              exact kt
            obtain ⟨cl342, Ar342, qa342, Sa342, Na342, Ha342, Ga342⟩ := id G337
            have hin342 : ¬ ((1 : Int32) < 0 ∨ cl342.slots.size ≤ ((1 : Int32)).toNatClampNeg) := inb_of Sa342 ⟨by decide, by decide⟩
            have hat342 : cl342.slots[((1 : Int32)).toNatClampNeg]? = some (.int (nar .char z15)) := Has.at Ha342 hin342 rfl
            have st344 : ∀ tg, Steps p.tables e below (T335.setTop (mkF m 250 #[.val (.int p1), .val (.int p2), .val (.int p3), .val (.int p4), .val (.int p5), .val (.int p6), .val (.int (5 : Int32)), .val (.ref b3), .unset, .unset] [(.int (nar .char z15)), (.int (1 : Int32)), (.ref b324), (.ref b324), (.ref b317), (.ref b317)])) tg → Steps p.tables e below (T335.setTop (mkF m 249 #[.val (.int p1), .val (.int p2), .val (.int p3), .val (.int p4), .val (.int p5), .val (.int p6), .val (.int (5 : Int32)), .val (.ref b3), .unset, .unset] [(.int (1 : Int32)), (.ref b3), (.int (1 : Int32)), (.ref b324), (.ref b324), (.ref b317), (.ref b317)])) tg := by
              intro tg kt
              refine X335.caload hx (j := (1 : Int32)) (v := (.int (nar .char z15))) (by rw [e335]; exact Ar342.1) (State.isArrayOf_alike hZ39.alike Ar342.2.1) Ar342.2.2 hin342 hat342 (g := (mkF m 249 #[.val (.int p1), .val (.int p2), .val (.int p3), .val (.int p4), .val (.int p5), .val (.int p6), .val (.int (5 : Int32)), .val (.ref b3), .unset, .unset] [(.int (1 : Int32)), (.ref b3), (.int (1 : Int32)), (.ref b324), (.ref b324), (.ref b317), (.ref b317)])) rfl rfl (hb hby at_249) _ ?_
              exact kt
            obtain ⟨cl345, Ar345, qa345, Sa345, Na345, Ha345, Ga345⟩ := id G341
            have hin345 : ¬ ((1 : Int32) < 0 ∨ cl345.slots.size ≤ ((1 : Int32)).toNatClampNeg) := inb_of Sa345 ⟨by decide, by decide⟩
            obtain ⟨T346, h346, X346, e346, W346, st346⟩ := stC X335 hx hZ39 e335 Ar345 (j := (1 : Int32)) hin345 (g := (mkF m 250 #[.val (.int p1), .val (.int p2), .val (.int p3), .val (.int p4), .val (.int p5), .val (.int p6), .val (.int (5 : Int32)), .val (.ref b3), .unset, .unset] [(.int (nar .char z15)), (.int (1 : Int32)), (.ref b324), (.ref b324), (.ref b317), (.ref b317)])) rfl rfl (hb hby at_250)
            have N346 := Fr.snoc X346 N335 g_b324
            have K346 : Keep h0 h346 [] := K335.wr W346 (Or.inr sz_b324)
            have Z346 : n0 ≤ h346.size := Nat.le_trans Z335 (Keep.of_wr W346).1
            have hks346 := Nat.le_trans hks335 (Keep.of_wr W346).1
            have CH346 := CHr.wr W346 (Safe.arr hZ39.alike Ar345 (by decide)) CH335.1
            have G347 : Old Z n0 h346 := G336.wr W346 g_b324
            have G348 : Arv Z h346 b3 k3 .char (5 : Int32) [(.int (nar .char z7)), (.int (nar .char z15)), (.int (nar .char z23)), (.int (nar .char z31)), (.int (nar .char z39))] (.int (0 : Int32)) := G337.other W346 ne_b3_b324
            have G349 : Exa Z h346 b317 "java/lang/String" := G338.wr W346
            have G350 : Fld Z h346 b317 "java/lang/String" "value" "[B" .null := G339.other W346 (Or.inl ne_b317_b324)
            have G351 : Fld Z h346 b317 "java/lang/String" "coder" "B" (.int (0 : Int32)) := G340.other W346 (Or.inl ne_b317_b324)
            have G352 : Arv Z h346 b324 k324 .char (5 : Int32) [(.int (nar .char (nar .char z7))), (.int (nar .char (nar .char z15))), (.int (0 : Int32)), (.int (0 : Int32)), (.int (0 : Int32))] (.int (0 : Int32)) := Arv.set Ar345 qa345 Sa345 Na345 Ha345 Ga345 (fits_nar_char _) W346 1 rfl (Nat.le_of_ble_eq_true rfl)
            have st354 : ∀ tg, Steps p.tables e below (T346.setTop (mkF m 256 #[.val (.int p1), .val (.int p2), .val (.int p3), .val (.int p4), .val (.int p5), .val (.int p6), .val (.int (5 : Int32)), .val (.ref b3), .unset, .unset] [(.int (2 : Int32)), (.ref b3), (.int (2 : Int32)), (.ref b324), (.ref b324), (.ref b317), (.ref b317)])) tg → Steps p.tables e below (T346.setTop (mkF m 251 #[.val (.int p1), .val (.int p2), .val (.int p3), .val (.int p4), .val (.int p5), .val (.int p6), .val (.int (5 : Int32)), .val (.ref b3), .unset, .unset] [(.ref b324), (.ref b317), (.ref b317)])) tg := by
              intro tg kt
              refine XS.dup X346.here hx rfl (hb hby at_251) rfl rfl ?_
              refine XS.iconst X346.here hx rfl (hb hby at_252) ?_
              refine XS.aload X346.here hx rfl (hb hby at_253) rfl rfl ?_
              refine XS.iconst X346.here hx rfl (hb hby at_255) ?_
              exact kt
            obtain ⟨cl353, Ar353, qa353, Sa353, Na353, Ha353, Ga353⟩ := id G348
            have hin353 : ¬ ((2 : Int32) < 0 ∨ cl353.slots.size ≤ ((2 : Int32)).toNatClampNeg) := inb_of Sa353 ⟨by decide, by decide⟩
            have hat353 : cl353.slots[((2 : Int32)).toNatClampNeg]? = some (.int (nar .char z23)) := Has.at Ha353 hin353 rfl
            have st355 : ∀ tg, Steps p.tables e below (T346.setTop (mkF m 257 #[.val (.int p1), .val (.int p2), .val (.int p3), .val (.int p4), .val (.int p5), .val (.int p6), .val (.int (5 : Int32)), .val (.ref b3), .unset, .unset] [(.int (nar .char z23)), (.int (2 : Int32)), (.ref b324), (.ref b324), (.ref b317), (.ref b317)])) tg → Steps p.tables e below (T346.setTop (mkF m 256 #[.val (.int p1), .val (.int p2), .val (.int p3), .val (.int p4), .val (.int p5), .val (.int p6), .val (.int (5 : Int32)), .val (.ref b3), .unset, .unset] [(.int (2 : Int32)), (.ref b3), (.int (2 : Int32)), (.ref b324), (.ref b324), (.ref b317), (.ref b317)])) tg := by
              intro tg kt
              refine X346.caload hx (j := (2 : Int32)) (v := (.int (nar .char z23))) (by rw [e346]; exact Ar353.1) (State.isArrayOf_alike hZ39.alike Ar353.2.1) Ar353.2.2 hin353 hat353 (g := (mkF m 256 #[.val (.int p1), .val (.int p2), .val (.int p3), .val (.int p4), .val (.int p5), .val (.int p6), .val (.int (5 : Int32)), .val (.ref b3), .unset, .unset] [(.int (2 : Int32)), (.ref b3), (.int (2 : Int32)), (.ref b324), (.ref b324), (.ref b317), (.ref b317)])) rfl rfl (hb hby at_256) _ ?_
              exact kt
            obtain ⟨cl356, Ar356, qa356, Sa356, Na356, Ha356, Ga356⟩ := id G352
            have hin356 : ¬ ((2 : Int32) < 0 ∨ cl356.slots.size ≤ ((2 : Int32)).toNatClampNeg) := inb_of Sa356 ⟨by decide, by decide⟩
            obtain ⟨T357, h357, X357, e357, W357, st357⟩ := stC X346 hx hZ39 e346 Ar356 (j := (2 : Int32)) hin356 (g := (mkF m 257 #[.val (.int p1), .val (.int p2), .val (.int p3), .val (.int p4), .val (.int p5), .val (.int p6), .val (.int (5 : Int32)), .val (.ref b3), .unset, .unset] [(.int (nar .char z23)), (.int (2 : Int32)), (.ref b324), (.ref b324), (.ref b317), (.ref b317)])) rfl rfl (hb hby at_257)
            have N357 := Fr.snoc X357 N346 g_b324
            have K357 : Keep h0 h357 [] := K346.wr W357 (Or.inr sz_b324)
            have Z357 : n0 ≤ h357.size := Nat.le_trans Z346 (Keep.of_wr W357).1
            have hks357 := Nat.le_trans hks346 (Keep.of_wr W357).1
            have CH357 := CHr.wr W357 (Safe.arr hZ39.alike Ar356 (by decide)) CH346.1
            have G358 : Old Z n0 h357 := G347.wr W357 g_b324
            have G359 : Arv Z h357 b3 k3 .char (5 : Int32) [(.int (nar .char z7)), (.int (nar .char z15)), (.int (nar .char z23)), (.int (nar .char z31)), (.int (nar .char z39))] (.int (0 : Int32)) := G348.other W357 ne_b3_b324
            have G360 : Exa Z h357 b317 "java/lang/String" := G349.wr W357
            have G361 : Fld Z h357 b317 "java/lang/String" "value" "[B" .null := G350.other W357 (Or.inl ne_b317_b324)
            have G362 : Fld Z h357 b317 "java/lang/String" "coder" "B" (.int (0 : Int32)) := G351.other W357 (Or.inl ne_b317_b324)
            have G363 : Arv Z h357 b324 k324 .char (5 : Int32) [(.int (nar .char (nar .char z7))), (.int (nar .char (nar .char z15))), (.int (nar .char (nar .char z23))), (.int (0 : Int32)), (.int (0 : Int32))] (.int (0 : Int32)) := Arv.set Ar356 qa356 Sa356 Na356 Ha356 Ga356 (fits_nar_char _) W357 2 rfl (Nat.le_of_ble_eq_true rfl)
            have st365 : ∀ tg, Steps p.tables e below (T357.setTop (mkF m 263 #[.val (.int p1), .val (.int p2), .val (.int p3), .val (.int p4), .val (.int p5), .val (.int p6), .val (.int (5 : Int32)), .val (.ref b3), .unset, .unset] [(.int (3 : Int32)), (.ref b3), (.int (3 : Int32)), (.ref b324), (.ref b324), (.ref b317), (.ref b317)])) tg → Steps p.tables e below (T357.setTop (mkF m 258 #[.val (.int p1), .val (.int p2), .val (.int p3), .val (.int p4), .val (.int p5), .val (.int p6), .val (.int (5 : Int32)), .val (.ref b3), .unset, .unset] [(.ref b324), (.ref b317), (.ref b317)])) tg := by
              intro tg kt
              refine XS.dup X357.here hx rfl (hb hby at_258) rfl rfl ?_
              refine XS.iconst X357.here hx rfl (hb hby at_259) ?_
              refine XS.aload X357.here hx rfl (hb hby at_260) rfl rfl ?_
              refine XS.iconst X357.here hx rfl (hb hby at_262) ?_
              exact kt
            obtain ⟨cl364, Ar364, qa364, Sa364, Na364, Ha364, Ga364⟩ := id G359
            have hin364 : ¬ ((3 : Int32) < 0 ∨ cl364.slots.size ≤ ((3 : Int32)).toNatClampNeg) := inb_of Sa364 ⟨by decide, by decide⟩
            have hat364 : cl364.slots[((3 : Int32)).toNatClampNeg]? = some (.int (nar .char z31)) := Has.at Ha364 hin364 rfl
            have st366 : ∀ tg, Steps p.tables e below (T357.setTop (mkF m 264 #[.val (.int p1), .val (.int p2), .val (.int p3), .val (.int p4), .val (.int p5), .val (.int p6), .val (.int (5 : Int32)), .val (.ref b3), .unset, .unset] [(.int (nar .char z31)), (.int (3 : Int32)), (.ref b324), (.ref b324), (.ref b317), (.ref b317)])) tg → Steps p.tables e below (T357.setTop (mkF m 263 #[.val (.int p1), .val (.int p2), .val (.int p3), .val (.int p4), .val (.int p5), .val (.int p6), .val (.int (5 : Int32)), .val (.ref b3), .unset, .unset] [(.int (3 : Int32)), (.ref b3), (.int (3 : Int32)), (.ref b324), (.ref b324), (.ref b317), (.ref b317)])) tg := by
              intro tg kt
              refine X357.caload hx (j := (3 : Int32)) (v := (.int (nar .char z31))) (by rw [e357]; exact Ar364.1) (State.isArrayOf_alike hZ39.alike Ar364.2.1) Ar364.2.2 hin364 hat364 (g := (mkF m 263 #[.val (.int p1), .val (.int p2), .val (.int p3), .val (.int p4), .val (.int p5), .val (.int p6), .val (.int (5 : Int32)), .val (.ref b3), .unset, .unset] [(.int (3 : Int32)), (.ref b3), (.int (3 : Int32)), (.ref b324), (.ref b324), (.ref b317), (.ref b317)])) rfl rfl (hb hby at_263) _ ?_
              exact kt
            obtain ⟨cl367, Ar367, qa367, Sa367, Na367, Ha367, Ga367⟩ := id G363
            have hin367 : ¬ ((3 : Int32) < 0 ∨ cl367.slots.size ≤ ((3 : Int32)).toNatClampNeg) := inb_of Sa367 ⟨by decide, by decide⟩
            obtain ⟨T368, h368, X368, e368, W368, st368⟩ := stC X357 hx hZ39 e357 Ar367 (j := (3 : Int32)) hin367 (g := (mkF m 264 #[.val (.int p1), .val (.int p2), .val (.int p3), .val (.int p4), .val (.int p5), .val (.int p6), .val (.int (5 : Int32)), .val (.ref b3), .unset, .unset] [(.int (nar .char z31)), (.int (3 : Int32)), (.ref b324), (.ref b324), (.ref b317), (.ref b317)])) rfl rfl (hb hby at_264)
            have N368 := Fr.snoc X368 N357 g_b324
            have K368 : Keep h0 h368 [] := K357.wr W368 (Or.inr sz_b324)
            have Z368 : n0 ≤ h368.size := Nat.le_trans Z357 (Keep.of_wr W368).1
            have hks368 := Nat.le_trans hks357 (Keep.of_wr W368).1
            have CH368 := CHr.wr W368 (Safe.arr hZ39.alike Ar367 (by decide)) CH357.1
            have G369 : Old Z n0 h368 := G358.wr W368 g_b324
            have G370 : Arv Z h368 b3 k3 .char (5 : Int32) [(.int (nar .char z7)), (.int (nar .char z15)), (.int (nar .char z23)), (.int (nar .char z31)), (.int (nar .char z39))] (.int (0 : Int32)) := G359.other W368 ne_b3_b324
            have G371 : Exa Z h368 b317 "java/lang/String" := G360.wr W368
            have G372 : Fld Z h368 b317 "java/lang/String" "value" "[B" .null := G361.other W368 (Or.inl ne_b317_b324)
            have G373 : Fld Z h368 b317 "java/lang/String" "coder" "B" (.int (0 : Int32)) := G362.other W368 (Or.inl ne_b317_b324)
            have G374 : Arv Z h368 b324 k324 .char (5 : Int32) [(.int (nar .char (nar .char z7))), (.int (nar .char (nar .char z15))), (.int (nar .char (nar .char z23))), (.int (nar .char (nar .char z31))), (.int (0 : Int32))] (.int (0 : Int32)) := Arv.set Ar367 qa367 Sa367 Na367 Ha367 Ga367 (fits_nar_char _) W368 3 rfl (Nat.le_of_ble_eq_true rfl)
            have st376 : ∀ tg, Steps p.tables e below (T368.setTop (mkF m 270 #[.val (.int p1), .val (.int p2), .val (.int p3), .val (.int p4), .val (.int p5), .val (.int p6), .val (.int (5 : Int32)), .val (.ref b3), .unset, .unset] [(.int (4 : Int32)), (.ref b3), (.int (4 : Int32)), (.ref b324), (.ref b324), (.ref b317), (.ref b317)])) tg → Steps p.tables e below (T368.setTop (mkF m 265 #[.val (.int p1), .val (.int p2), .val (.int p3), .val (.int p4), .val (.int p5), .val (.int p6), .val (.int (5 : Int32)), .val (.ref b3), .unset, .unset] [(.ref b324), (.ref b317), (.ref b317)])) tg := by
              intro tg kt
              refine XS.dup X368.here hx rfl (hb hby at_265) rfl rfl ?_
              refine XS.iconst X368.here hx rfl (hb hby at_266) ?_
              refine XS.aload X368.here hx rfl (hb hby at_267) rfl rfl ?_
              refine XS.iconst X368.here hx rfl (hb hby at_269) ?_
              exact kt
            obtain ⟨cl375, Ar375, qa375, Sa375, Na375, Ha375, Ga375⟩ := id G370
            have hin375 : ¬ ((4 : Int32) < 0 ∨ cl375.slots.size ≤ ((4 : Int32)).toNatClampNeg) := inb_of Sa375 ⟨by decide, by decide⟩
            have hat375 : cl375.slots[((4 : Int32)).toNatClampNeg]? = some (.int (nar .char z39)) := Has.at Ha375 hin375 rfl
            have st377 : ∀ tg, Steps p.tables e below (T368.setTop (mkF m 271 #[.val (.int p1), .val (.int p2), .val (.int p3), .val (.int p4), .val (.int p5), .val (.int p6), .val (.int (5 : Int32)), .val (.ref b3), .unset, .unset] [(.int (nar .char z39)), (.int (4 : Int32)), (.ref b324), (.ref b324), (.ref b317), (.ref b317)])) tg → Steps p.tables e below (T368.setTop (mkF m 270 #[.val (.int p1), .val (.int p2), .val (.int p3), .val (.int p4), .val (.int p5), .val (.int p6), .val (.int (5 : Int32)), .val (.ref b3), .unset, .unset] [(.int (4 : Int32)), (.ref b3), (.int (4 : Int32)), (.ref b324), (.ref b324), (.ref b317), (.ref b317)])) tg := by
              intro tg kt
              refine X368.caload hx (j := (4 : Int32)) (v := (.int (nar .char z39))) (by rw [e368]; exact Ar375.1) (State.isArrayOf_alike hZ39.alike Ar375.2.1) Ar375.2.2 hin375 hat375 (g := (mkF m 270 #[.val (.int p1), .val (.int p2), .val (.int p3), .val (.int p4), .val (.int p5), .val (.int p6), .val (.int (5 : Int32)), .val (.ref b3), .unset, .unset] [(.int (4 : Int32)), (.ref b3), (.int (4 : Int32)), (.ref b324), (.ref b324), (.ref b317), (.ref b317)])) rfl rfl (hb hby at_270) _ ?_
              exact kt
            obtain ⟨cl378, Ar378, qa378, Sa378, Na378, Ha378, Ga378⟩ := id G374
            have hin378 : ¬ ((4 : Int32) < 0 ∨ cl378.slots.size ≤ ((4 : Int32)).toNatClampNeg) := inb_of Sa378 ⟨by decide, by decide⟩
            obtain ⟨T379, h379, X379, e379, W379, st379⟩ := stC X368 hx hZ39 e368 Ar378 (j := (4 : Int32)) hin378 (g := (mkF m 271 #[.val (.int p1), .val (.int p2), .val (.int p3), .val (.int p4), .val (.int p5), .val (.int p6), .val (.int (5 : Int32)), .val (.ref b3), .unset, .unset] [(.int (nar .char z39)), (.int (4 : Int32)), (.ref b324), (.ref b324), (.ref b317), (.ref b317)])) rfl rfl (hb hby at_271)
            have N379 := Fr.snoc X379 N368 g_b324
            have K379 : Keep h0 h379 [] := K368.wr W379 (Or.inr sz_b324)
            have Z379 : n0 ≤ h379.size := Nat.le_trans Z368 (Keep.of_wr W379).1
            have hks379 := Nat.le_trans hks368 (Keep.of_wr W379).1
            have CH379 := CHr.wr W379 (Safe.arr hZ39.alike Ar378 (by decide)) CH368.1
            have G380 : Old Z n0 h379 := G369.wr W379 g_b324
            have G381 : Arv Z h379 b3 k3 .char (5 : Int32) [(.int (nar .char z7)), (.int (nar .char z15)), (.int (nar .char z23)), (.int (nar .char z31)), (.int (nar .char z39))] (.int (0 : Int32)) := G370.other W379 ne_b3_b324
            have G382 : Exa Z h379 b317 "java/lang/String" := G371.wr W379
            have G383 : Fld Z h379 b317 "java/lang/String" "value" "[B" .null := G372.other W379 (Or.inl ne_b317_b324)
            have G384 : Fld Z h379 b317 "java/lang/String" "coder" "B" (.int (0 : Int32)) := G373.other W379 (Or.inl ne_b317_b324)
            have G385 : Arv Z h379 b324 k324 .char (5 : Int32) [(.int (nar .char (nar .char z7))), (.int (nar .char (nar .char z15))), (.int (nar .char (nar .char z23))), (.int (nar .char (nar .char z31))), (.int (nar .char (nar .char z39)))] (.int (0 : Int32)) := Arv.set Ar378 qa378 Sa378 Na378 Ha378 Ga378 (fits_nar_char _) W379 4 rfl (Nat.le_of_ble_eq_true rfl)
            obtain ⟨_, _, ⟨T386, L386, k386, n386⟩, -, X386, ⟨Lc386, hQ386, l386, y386, z386⟩, st386⟩ := X379.specialBack hx (y := (⟨"java/lang/String", "<init>", "([C)V"⟩ : MethodName)) rfl hown39 (mvT hZ39 (hw _ (List.mem_of_getElem? (i := 41) rfl))) (mvT hZ39 (hw _ (List.mem_of_getElem? (i := 42) rfl))) (mvT hZ39 (hw _ (List.mem_of_getElem? (i := 43) rfl))) (by decide) (backOf (W := 1) (rm7 l Z a0 hw [] b317 b324 5 CF wc h379 n0 Z379 G380 S_c hwc S_a S_h S_l (by decide) (by decide) (fun t _ => hCc t) G382 G383 G384 (ArF.of_arv G385 (by decide) (fun i hi => match i, hi with | 0, _ => (by rw [hC0]; exact congrArg Value.int (own_nn2 _)) | 1, _ => (by rw [hC1]; exact congrArg Value.int (own_nn2 _)) | 2, _ => (by rw [hC2]; exact congrArg Value.int (own_nn2 _)) | 3, _ => (by rw [hC3]; exact congrArg Value.int (own_nn2 _)) | 4, _ => (by rw [hC4]; exact congrArg Value.int (own_nn2 _)) | k + 5, hk => absurd hk (by omega))) g_b317 (Ne.symm ne_b317_b324)) hZ39 (hw _ (List.mem_of_getElem? (i := 43) rfl)) (hw _ (List.mem_of_getElem? (i := 8) rfl)) (by decide) (by decide)) (g := (mkF m 272 #[.val (.int p1), .val (.int p2), .val (.int p3), .val (.int p4), .val (.int p5), .val (.int p6), .val (.int (5 : Int32)), .val (.ref b3), .unset, .unset] [(.ref b324), (.ref b317), (.ref b317)])) rfl (by rw [hml]; rfl) (Steps.refl _) (a := b317) (argsL := [(.ref b324)]) (rest := [(.ref b317)]) (lenOf pd_26 rfl) rfl (by show 2 * 0 + _ ≤ _; exact Nat.le_of_eq rfl) (hb hby at_272) (fun _ _ => ⟨rfl, e379, (by decide : 13 + 2 ≤ _), (by decide : 474 + 15 ≤ _)⟩)
            dsimp only [Pt.U, Pt.locs, Pt.cells, Pt.slots] at X386 l386 y386 z386 st386 hQ386
            subst l386 y386 z386
            obtain ⟨rfl, N386q, K386q, S386q⟩ := hQ386
            have N386 := Fr.app N379 N386q
            have G387 : Old Z n0 T386.heap := G380.keep K386q (allS g_b317 (all0))
            have G388 : Arv Z T386.heap b3 k3 .char (5 : Int32) [(.int (nar .char z7)), (.int (nar .char z15)), (.int (nar .char z23)), (.int (nar .char z31)), (.int (nar .char z39))] (.int (0 : Int32)) := G381.keep K386q (ninS ne_b3_b317 (nin0))
            have G389 : Exa Z T386.heap b317 "java/lang/String" := G382.keep K386q
            have G390 : Arv Z T386.heap b324 k324 .char (5 : Int32) [(.int (nar .char (nar .char z7))), (.int (nar .char (nar .char z15))), (.int (nar .char (nar .char z23))), (.int (nar .char (nar .char z31))), (.int (nar .char (nar .char z39)))] (.int (0 : Int32)) := G385.keep K386q (ninS (Ne.symm ne_b317_b324) (nin0))
            have K386 : Keep h0 T386.heap [] := K379.trans K386q (allS (Or.inr sz_b317) all0)
            have Z386 : n0 ≤ T386.heap.size := Nat.le_trans Z379 K386q.1
            have hks386 := Nat.le_trans hks379 K386q.1
            have st391 : ∀ tg, Steps p.tables e below (T386.setTop (mkF m 277 #[.val (.int p1), .val (.int p2), .val (.int p3), .val (.int p4), .val (.int p5), .val (.int p6), .val (.int (5 : Int32)), .val (.ref b3), .val (.ref b317), .unset] [])) tg → Steps p.tables e below (T386.setTop (mkF m 275 #[.val (.int p1), .val (.int p2), .val (.int p3), .val (.int p4), .val (.int p5), .val (.int p6), .val (.int (5 : Int32)), .val (.ref b3), .unset, .unset] [(.ref b317)])) tg := by
              intro tg kt
              refine XS.astore X386.here hx rfl (hb hby at_275) rfl rfl (l' := #[.val (.int p1), .val (.int p2), .val (.int p3), .val (.int p4), .val (.int p5), .val (.int p6), .val (.int (5 : Int32)), .val (.ref b3), .val (.ref b317), .unset]) rfl ?_
              exact kt
            refine tail 5 b317 _ _ _ _ (by decide) S386q (ArF.of_arv G388 (by decide) (fun i hi => match i, hi with | 0, _ => congrArg Value.int hC0.symm | 1, _ => congrArg Value.int hC1.symm | 2, _ => congrArg Value.int hC2.symm | 3, _ => congrArg Value.int hC3.symm | 4, _ => congrArg Value.int hC4.symm | k + 5, hk => absurd hk (by omega))) G387 Z386 hZ39 hown39 hS39 hks386 N386 (X386.more (by decide) (by decide)) (fun tg kt => ?_)
            refine pre0 _ ?_
            refine st1 _ ?_
            refine st2 _ ?_
            show Steps p.tables e below (s₁.setTop (mkF m 10 #[.val (.int p1), .val (.int p2), .val (.int p3), .val (.int p4), .val (.int p5), .val (.int p6), .val (.int kn), .unset, .unset, .unset] [(.int (5 : Int32))])) _
            refine st3 _ ?_
            refine st6 _ ?_
            show Steps p.tables e below (T3.setTop (mkF m 18 #[.val (.int p1), .val (.int p2), .val (.int p3), .val (.int p4), .val (.int p5), .val (.int p6), .val (.int kn), .val (.ref b3), .unset, .unset] [(.int p2), (.int (0 : Int32)), (.ref b3)])) _
            refine st7.trans ?_
            show Steps p.tables e below (T7.setTop (mkF m 21 #[.val (.int p1), .val (.int p2), .val (.int p3), .val (.int p4), .val (.int p5), .val (.int p6), .val (.int kn), .val (.ref b3), .unset, .unset] [(.int z7), (.int (0 : Int32)), (.ref b3)])) _
            refine st11 _ ?_
            refine st14 _ ?_
            show Steps p.tables e below (T11.setTop (mkF m 26 #[.val (.int p1), .val (.int p2), .val (.int p3), .val (.int p4), .val (.int p5), .val (.int p6), .val (.int kn), .val (.ref b3), .unset, .unset] [(.int p3), (.int (1 : Int32)), (.ref b3)])) _
            refine st15.trans ?_
            show Steps p.tables e below (T15.setTop (mkF m 29 #[.val (.int p1), .val (.int p2), .val (.int p3), .val (.int p4), .val (.int p5), .val (.int p6), .val (.int kn), .val (.ref b3), .unset, .unset] [(.int z15), (.int (1 : Int32)), (.ref b3)])) _
            refine st19 _ ?_
            refine st22 _ ?_
            show Steps p.tables e below (T19.setTop (mkF m 34 #[.val (.int p1), .val (.int p2), .val (.int p3), .val (.int p4), .val (.int p5), .val (.int p6), .val (.int kn), .val (.ref b3), .unset, .unset] [(.int p4), (.int (2 : Int32)), (.ref b3)])) _
            refine st23.trans ?_
            show Steps p.tables e below (T23.setTop (mkF m 37 #[.val (.int p1), .val (.int p2), .val (.int p3), .val (.int p4), .val (.int p5), .val (.int p6), .val (.int kn), .val (.ref b3), .unset, .unset] [(.int z23), (.int (2 : Int32)), (.ref b3)])) _
            refine st27 _ ?_
            refine st30 _ ?_
            show Steps p.tables e below (T27.setTop (mkF m 43 #[.val (.int p1), .val (.int p2), .val (.int p3), .val (.int p4), .val (.int p5), .val (.int p6), .val (.int kn), .val (.ref b3), .unset, .unset] [(.int p5), (.int (3 : Int32)), (.ref b3)])) _
            refine st31.trans ?_
            show Steps p.tables e below (T31.setTop (mkF m 46 #[.val (.int p1), .val (.int p2), .val (.int p3), .val (.int p4), .val (.int p5), .val (.int p6), .val (.int kn), .val (.ref b3), .unset, .unset] [(.int z31), (.int (3 : Int32)), (.ref b3)])) _
            refine st35 _ ?_
            refine st38 _ ?_
            show Steps p.tables e below (T35.setTop (mkF m 52 #[.val (.int p1), .val (.int p2), .val (.int p3), .val (.int p4), .val (.int p5), .val (.int p6), .val (.int kn), .val (.ref b3), .unset, .unset] [(.int p6), (.int (4 : Int32)), (.ref b3)])) _
            refine st39.trans ?_
            show Steps p.tables e below (T39.setTop (mkF m 55 #[.val (.int p1), .val (.int p2), .val (.int p3), .val (.int p4), .val (.int p5), .val (.int p6), .val (.int kn), .val (.ref b3), .unset, .unset] [(.int z39), (.int (4 : Int32)), (.ref b3)])) _
            refine st43 _ ?_
            refine st92 _ ?_
            refine st115 _ ?_
            refine st149 _ ?_
            refine st194 _ ?_
            refine st250 _ ?_
            refine st316 _ ?_
            show Steps p.tables e below (T43.setTop (mkF m 230 #[.val (.int p1), .val (.int p2), .val (.int p3), .val (.int p4), .val (.int p5), .val (.int p6), .val (.int kn), .val (.ref b3), .unset, .unset] [])) _
            rw [hk5]
            show Steps p.tables e below (T43.setTop (mkF m 230 #[.val (.int p1), .val (.int p2), .val (.int p3), .val (.int p4), .val (.int p5), .val (.int p6), .val (.int (5 : Int32)), .val (.ref b3), .unset, .unset] [])) _
            refine st317 _ ?_
            refine st323 _ ?_
            show Steps p.tables e below (T317.setTop (mkF m 235 #[.val (.int p1), .val (.int p2), .val (.int p3), .val (.int p4), .val (.int p5), .val (.int p6), .val (.int (5 : Int32)), .val (.ref b3), .unset, .unset] [(.int (5 : Int32)), (.ref b317), (.ref b317)])) _
            refine st324 _ ?_
            refine st332 _ ?_
            refine st333 _ ?_
            show Steps p.tables e below (T324.setTop (mkF m 243 #[.val (.int p1), .val (.int p2), .val (.int p3), .val (.int p4), .val (.int p5), .val (.int p6), .val (.int (5 : Int32)), .val (.ref b3), .unset, .unset] [(.int (nar .char z7)), (.int (0 : Int32)), (.ref b324), (.ref b324), (.ref b317), (.ref b317)])) _
            refine st335 _ ?_
            refine st343 _ ?_
            refine st344 _ ?_
            show Steps p.tables e below (T335.setTop (mkF m 250 #[.val (.int p1), .val (.int p2), .val (.int p3), .val (.int p4), .val (.int p5), .val (.int p6), .val (.int (5 : Int32)), .val (.ref b3), .unset, .unset] [(.int (nar .char z15)), (.int (1 : Int32)), (.ref b324), (.ref b324), (.ref b317), (.ref b317)])) _
            refine st346 _ ?_
            refine st354 _ ?_
            refine st355 _ ?_
            show Steps p.tables e below (T346.setTop (mkF m 257 #[.val (.int p1), .val (.int p2), .val (.int p3), .val (.int p4), .val (.int p5), .val (.int p6), .val (.int (5 : Int32)), .val (.ref b3), .unset, .unset] [(.int (nar .char z23)), (.int (2 : Int32)), (.ref b324), (.ref b324), (.ref b317), (.ref b317)])) _
            refine st357 _ ?_
            refine st365 _ ?_
            refine st366 _ ?_
            show Steps p.tables e below (T357.setTop (mkF m 264 #[.val (.int p1), .val (.int p2), .val (.int p3), .val (.int p4), .val (.int p5), .val (.int p6), .val (.int (5 : Int32)), .val (.ref b3), .unset, .unset] [(.int (nar .char z31)), (.int (3 : Int32)), (.ref b324), (.ref b324), (.ref b317), (.ref b317)])) _
            refine st368 _ ?_
            refine st376 _ ?_
            refine st377 _ ?_
            show Steps p.tables e below (T368.setTop (mkF m 271 #[.val (.int p1), .val (.int p2), .val (.int p3), .val (.int p4), .val (.int p5), .val (.int p6), .val (.int (5 : Int32)), .val (.ref b3), .unset, .unset] [(.int (nar .char z39)), (.int (4 : Int32)), (.ref b324), (.ref b324), (.ref b317), (.ref b317)])) _
            refine st379 _ ?_
            show Steps p.tables e below (T379.setTop (mkF m 272 #[.val (.int p1), .val (.int p2), .val (.int p3), .val (.int p4), .val (.int p5), .val (.int p6), .val (.int (5 : Int32)), .val (.ref b3), .unset, .unset] [(.ref b324), (.ref b317), (.ref b317)])) _
            refine st386.trans ?_
            refine st391 _ ?_
            exact kt
set_option maxRecDepth 65536 in
set_option maxHeartbeats 40000000 in
theorem comes_1 {Post : Tables → Env → Array Value → State → Outcome → State → Prop} (hpost : ∀ tb e args s v u, (limb_1_1.after args s (.returned v) u = true ∧ limb_1_2.after args s (.returned v) u = true ∧ True) → ReturnedEndW s (.returned v) u (Jvm.fieldLocs frame_1_writes args s ++ Jvm.arrayLocs frame_1_arrays args s ++ Jvm.staticLocs frame_1_statics s) 24 2240 → Post tb e args s (.returned v) u) :
    ArmFor flags0 classFile x code maxLocals ret World_1 tables_1 room_1 Calls_1 rest_1 Pre_1 Post := by
  intro l hfl _ _ p e ha hc hk s m args below hf hA hF happ hP
  obtain ⟨hcalls, hrest, hpre⟩ := hP
  obtain ⟨-, -, -, hnamed, -, -, -, hat⟩ := (Spec.applies_iff hf).mp happ
  obtain ⟨hg, hn⟩ := and_e (Cond.before_iff.mp (show (Jvm.Cond.and given_1 narrow_1).before args s = true from hpre))
  obtain ⟨k0, j0⟩ := and_e hg
  obtain ⟨k1, j1⟩ := and_e j0
  obtain ⟨k2, j2⟩ := and_e j1
  obtain ⟨k3, j3⟩ := and_e j2
  obtain ⟨k4, j4⟩ := and_e j3
  obtain ⟨k5, j5⟩ := and_e j4
  obtain ⟨w0, w1, w2, w3, w4, w5, rfl⟩ : ∃ w0 w1 w2 w3 w4 w5 : Value, args = #[w0, w1, w2, w3, w4, w5] := by
    have hs : args.size = 6 := by simpa [Cond.value, given_1] using k0
    obtain ⟨L⟩ := args
    match L, hs with
    | [w0, w1, w2, w3, w4, w5], _ => exact ⟨w0, w1, w2, w3, w4, w5, rfl⟩
  have hw := fun d (hd : d ∈ tables_1) => atoms_spec (ws := Jvm.Cond.code x code maxLocals ret :: tables_1) hat d (List.mem_cons_of_mem _ hd)
  have hfit : Fit s := fun {y c} hc i hi => by
    obtain ⟨ha, rfl⟩ := Array.getElem?_eq_some_iff.mp hc
    have q := List.all_eq_true.mp ((Array.all_eq_true_iff_forall_mem.mp hF) _ (Array.getElem_mem ha)) i (List.mem_range.mpr hi)
    simpa [Array.getElem?_eq_getElem hi] using q
  obtain ⟨hsets, hown0⟩ := atoms_of _ (rest_1_c_eq ▸ (show rest_1_c.before _ s = true from hrest))
  have hr0 := Cond.before_iff.mp hown0
  obtain ⟨i0, ei0⟩ := is_v k1
  obtain rfl : w0 = (.int i0) := Option.some.inj ei0
  obtain ⟨i1, ei1⟩ := is_v k2
  obtain rfl : w1 = (.int i1) := Option.some.inj ei1
  obtain ⟨i2, ei2⟩ := is_v k3
  obtain rfl : w2 = (.int i2) := Option.some.inj ei2
  obtain ⟨i3, ei3⟩ := is_v k4
  obtain rfl : w3 = (.int i3) := Option.some.inj ei3
  obtain ⟨i4, ei4⟩ := is_v k5
  obtain rfl : w4 = (.int i4) := Option.some.inj ei4
  obtain ⟨i5, ei5⟩ := is_v j5
  obtain rfl : w5 = (.int i5) := Option.some.inj ei5
  obtain ⟨wc, evc⟩ := is_v (Cond.before_iff.mp (hsets _ (List.mem_of_getElem? (i := 1) rfl)))
  have S_c := Sta.start evc (Or.inl (hsets _ (List.mem_of_getElem? (i := 0) rfl)))
  have hwc : ¬ (wc = 0) := own_nz evc (Cond.before_iff.mp (hsets _ (List.mem_of_getElem? (i := 2) rfl)))
  obtain ⟨fm, evf, hfm⟩ := isR_v (Cond.before_iff.mp (hsets _ (List.mem_of_getElem? (i := 8) rfl)))
  have S_f := Sta.start evf (Or.inl (hsets _ (List.mem_of_getElem? (i := 7) rfl)))
  have S_a := Sta.start (eqv_i (Term.int_eval _) (Cond.before_iff.mp (hsets _ (List.mem_of_getElem? (i := 12) rfl)))) (Or.inl (hsets _ (List.mem_of_getElem? (i := 11) rfl)))
  have S_h := Sta.start (eqv_i (Term.int_eval _) (Cond.before_iff.mp (hsets _ (List.mem_of_getElem? (i := 15) rfl)))) (Or.inl (hsets _ (List.mem_of_getElem? (i := 14) rfl)))
  have S_l := Sta.start (eqv_i (Term.int_eval _) (Cond.before_iff.mp (hsets _ (List.mem_of_getElem? (i := 18) rfl)))) (Or.inl (hsets _ (List.mem_of_getElem? (i := 17) rfl)))
  have hEL : EW s _ EL := EW.cons (hw _ (List.mem_of_getElem? (i := 7) rfl)) (by decide +kernel) (EW.cons (hw _ (List.mem_of_getElem? (i := 51) rfl)) (by decide +kernel) EW.nil)
  have hCH : CHv s EL s.vm s.heap := CHv.start hEL (fun p hp => hcalls.1 p (by revert p; decide +kernel)) (hsets _ (List.mem_of_getElem? (i := 2) rfl)) (hw _ (List.mem_of_getElem? (i := 10) rfl)) (hw _ (List.mem_of_getElem? (i := 9) rfl))
  obtain ⟨n, o, h1, h2, h3, _, L, rfl, ⟨rfl, N⟩, hq⟩ := rm0 l s _ hw tables_1 i0 i1 i2 i3 i4 i5 wc fm s.heap s.heap.size (Nat.le_refl _) (Old.start s) S_c hwc hfm S_f S_a S_h S_l hEL p e ha hc hk s m _ below hf ((Spec.applies_iff_loose hf).mp happ).1 ⟨rfl, State.Warmed39.refl s, rfl, hCH⟩ trivial
  refine ⟨n, _, h1, h2, h3, hpost _ _ _ _ _ _ ⟨Cond.after_iff.mpr rfl, Cond.after_iff.mpr (eq_i res_at (Term.int_eval (1)) rfl), trivial⟩ ⟨hq.1, hq.2.1, hq.2.2.1, (hq.2.2.2.sift fun y hy => Or.inr (N y hy)).mono (by decide) (by decide)⟩⟩
theorem main_1_1 : Claimed_1_1 := comes_1 fun _ _ _ _ _ _ h hF => ⟨h.1, hF⟩
theorem main_1_2 : Claimed_1_2 := comes_1 fun _ _ _ _ _ _ h hF => ⟨h.2.1, hF⟩
end Jvm.Pilot.@@N@@
namespace Jvm.Pilot.@@N@@
open Jvm Jvm.ClassFile Sem Op Lib Jvm.Free Jvm.Stand Jvm.Pilot.@@N@@.Jvm.D
/-! MADE BY PROGRAM (witnessworld.py) out of the Statement's table words and the real class files: 21 classes; the members and pool entries that the words name. The judged class is class 1, her method 1. -/
namespace start1
open Jvm.ClassFile
def u (s : String) : CpInfo := .utf8 (stringToUtf16 s)
/-- a pool by its gaps: so many unusable entries, then the entry; so many at the end -/
def gap : Nat → List CpInfo → List CpInfo
  | 0, r => r
  | n + 1, r => .unusable :: gap n r
def poolList (es : List (Nat × CpInfo)) (last : Nat) : List CpInfo := es.foldr (fun e r => gap e.1 (e.2 :: r)) (gap last [])
def pool (es : List (Nat × CpInfo)) (last : Nat) : Array CpInfo := ⟨poolList es last⟩
def fileOf (pool : Array CpInfo) (this : Nat) (attrs : Array Attribute := #[]) (ms : Array MethodInfo := #[]) (fl : Nat := 33) (sup : Nat := 0) (ifs : Array Nat := #[]) (fds : Array FieldInfo := #[]) : ClassFile where
  minorVersion := 0
  majorVersion := 65
  constantPool := pool
  accessFlags := fl
  thisClass := this
  superClass := sup
  interfaces := ifs
  fields := fds
  methods := ms
  attributes := attrs
def plain (name : String) (sup : Option ClassId) : Class where
  name := name
  kind := .ordinary
  loader := none
  accessFlags := 33
  super := sup
  interfaces := #[]
  cf := none
  fields := #[]
  methods := #[]
  instanceTypes := #[]
  staticTypes := #[]
  resolved := #[]
  callSites := []
  init := .initialized
  statics := none
  mirror := none

def pool0 : Array CpInfo := pool [(5, u "<init>"), (0, u "()V"), (1, .class_ 10), (1, u "java/lang/Object")] 113

def k0c0 : Code := { maxStack := 0, maxLocals := 1, code := object_method_1_code, exceptionTable := #[], attributes := #[] }
def k0m0 : Method := { name := "<init>", desc := "()V", sig := { parameters := [], returnType := none }, accessFlags := 1, code := some k0c0 }
/-- java/lang/Object -/
def k0 : Class := { plain "java/lang/Object" none with
  accessFlags := 33
  interfaces := #[]
  cf := some (fileOf pool0 8 #[] #[{ accessFlags := 1, nameIndex := 5, descriptorIndex := 6, attributes := #[] }] 33 0 #[] #[])
  fields := #[]
  methods := #[k0m0]
  instanceTypes := #[]
  staticTypes := #[]
  resolved := Array.replicate 124 none
  statics := none }

def pool1 : Array CpInfo := pool [(2, .class_ 4), (1, u "java/lang/Object"), (0, u "<init>"), (0, u "()V"), (0, .integer 2147483647), (0, .methodref 9 10), (0, .class_ 11), (0, .nameAndType 12 13), (0, u "com/example/grantline/grantline/PercentEncodingHasBadEscapePinLaw"), (0, u "pick"), (0, u "(I)C"), (0, .class_ 15), (0, u "java/lang/String"), (0, .methodref 14 17), (0, .nameAndType 5 18), (0, u "([C)V"), (0, .methodref 9 20), (0, .nameAndType 21 22), (0, u "badAt"), (0, u "([CII)Z"), (0, .methodref 24 25), (0, .class_ 26), (0, .nameAndType 27 28), (0, u "com/example/grantline/grantline/PercentEncoding"), (0, u "hasBadEscape"), (0, u "(Ljava/lang/String;)Z"), (0, .string 30), (0, u "0123456789abcdefABCDEF"), (0, .methodref 14 32), (0, .nameAndType 33 13), (0, u "charAt"), (0, .integer 65535), (0, .methodref 9 36), (0, .nameAndType 37 38), (0, u "isHex"), (0, u "(C)Z"), (2, u "law"), (0, u "(IIIIII)Z")] 5

def k1m0 : Method := { name := "<init>", desc := "()V", sig := { parameters := [], returnType := none }, accessFlags := 2, code := none }
def k1c1 : Code := { maxStack := 7, maxLocals := 10, code := code, exceptionTable := #[], attributes := #[] }
def k1m1 : Method := { name := "law", desc := "(IIIIII)Z", sig := { parameters := [.int, .int, .int, .int, .int, .int], returnType := some .boolean }, accessFlags := 9, code := some k1c1 }
def k1c2 : Code := { maxStack := 3, maxLocals := 3, code := method_3_code, exceptionTable := #[], attributes := #[] }
def k1m2 : Method := { name := "pick", desc := "(I)C", sig := { parameters := [.int], returnType := some .char }, accessFlags := 10, code := some k1c2 }
def k1c3 : Code := { maxStack := 2, maxLocals := 1, code := method_4_code, exceptionTable := #[], attributes := #[] }
def k1m3 : Method := { name := "isHex", desc := "(C)Z", sig := { parameters := [.char], returnType := some .boolean }, accessFlags := 10, code := some k1c3 }
def k1c4 : Code := { maxStack := 3, maxLocals := 3, code := method_5_code, exceptionTable := #[], attributes := #[] }
def k1m4 : Method := { name := "badAt", desc := "([CII)Z", sig := { parameters := [(.array .char), .int, .int], returnType := some .boolean }, accessFlags := 10, code := some k1c4 }
/-- com/example/grantline/grantline/PercentEncodingHasBadEscapePinLaw -/
def k1 : Class := { plain "com/example/grantline/grantline/PercentEncodingHasBadEscapePinLaw" (some 0) with
  accessFlags := 49
  interfaces := #[]
  cf := some (fileOf pool1 9 #[] #[{ accessFlags := 2, nameIndex := 5, descriptorIndex := 6, attributes := #[] }, { accessFlags := 9, nameIndex := 41, descriptorIndex := 42, attributes := #[] }, { accessFlags := 10, nameIndex := 12, descriptorIndex := 13, attributes := #[] }, { accessFlags := 10, nameIndex := 37, descriptorIndex := 38, attributes := #[] }, { accessFlags := 10, nameIndex := 21, descriptorIndex := 22, attributes := #[] }] 49 2 #[] #[])
  fields := #[]
  methods := #[k1m0, k1m1, k1m2, k1m3, k1m4]
  instanceTypes := #[]
  staticTypes := #[]
  resolved := Array.replicate 48 none
  statics := none }

def pool2 : Array CpInfo := pool [(1, .class_ 2), (0, u "java/io/Serializable"), (0, .class_ 4), (0, u "java/lang/Object")] 2

/-- java/io/Serializable -/
def k2 : Class := { plain "java/io/Serializable" (some 0) with
  accessFlags := 1537
  interfaces := #[]
  cf := some (fileOf pool2 1 #[] #[] 1537 3 #[] #[])
  fields := #[]
  methods := #[]
  instanceTypes := #[]
  staticTypes := #[]
  resolved := Array.replicate 7 none
  statics := none }

def pool3 : Array CpInfo := pool [(1, .class_ 2), (0, u "java/lang/Comparable"), (0, .class_ 4), (0, u "java/lang/Object")] 7

/-- java/lang/Comparable -/
def k3 : Class := { plain "java/lang/Comparable" (some 0) with
  accessFlags := 1537
  interfaces := #[]
  cf := some (fileOf pool3 1 #[] #[] 1537 3 #[] #[])
  fields := #[]
  methods := #[]
  instanceTypes := #[]
  staticTypes := #[]
  resolved := Array.replicate 12 none
  statics := none }

def pool4 : Array CpInfo := pool [(2, .class_ 4), (1, u "java/lang/CharSequence"), (42, .class_ 48), (0, u "java/lang/CharSequence$1CodePointIterator"), (10, .class_ 60), (0, u "java/lang/CharSequence$1CharIterator"), (5, .class_ 67), (0, u "java/lang/Object")] 63

/-- java/lang/CharSequence -/
def k4 : Class := { plain "java/lang/CharSequence" (some 0) with
  accessFlags := 1537
  interfaces := #[]
  cf := some (fileOf pool4 2 #[.nestMembers #[47, 59]] #[] 1537 66 #[] #[])
  fields := #[]
  methods := #[]
  instanceTypes := #[]
  staticTypes := #[]
  resolved := Array.replicate 131 none
  statics := none }

def pool5 : Array CpInfo := pool [(1, .class_ 2), (0, u "java/lang/constant/Constable"), (0, .class_ 4), (0, u "java/lang/Object")] 6

/-- java/lang/constant/Constable -/
def k5 : Class := { plain "java/lang/constant/Constable" (some 0) with
  accessFlags := 1537
  interfaces := #[]
  cf := some (fileOf pool5 1 #[] #[] 1537 3 #[] #[])
  fields := #[]
  methods := #[]
  instanceTypes := #[]
  staticTypes := #[]
  resolved := Array.replicate 11 none
  statics := none }

def pool6 : Array CpInfo := pool [(1, .class_ 2), (0, u "java/lang/constant/ConstantDesc"), (0, .class_ 4), (0, u "java/lang/Object")] 32

/-- java/lang/constant/ConstantDesc -/
def k6 : Class := { plain "java/lang/constant/ConstantDesc" (some 0) with
  accessFlags := 1537
  interfaces := #[]
  cf := some (fileOf pool6 1 #[] #[] 1537 3 #[] #[])
  fields := #[]
  methods := #[]
  instanceTypes := #[]
  staticTypes := #[]
  resolved := Array.replicate 37 none
  statics := none }

def pool7 : Array CpInfo := pool [(1, .methodref 2 3), (0, .class_ 4), (0, .nameAndType 5 6), (0, u "java/lang/Object"), (0, u "<init>"), (0, u "()V"), (0, .string 8), (0, u ""), (0, .fieldref 10 11), (0, .class_ 12), (0, .nameAndType 13 14), (0, u "java/lang/String"), (0, u "value"), (0, u "[B"), (0, .fieldref 10 16), (0, .nameAndType 17 18), (0, u "coder"), (0, u "B"), (2, u "hash"), (0, u "I"), (2, u "hashIsZero"), (0, u "Z"), (0, .methodref 10 28), (0, .nameAndType 5 29), (0, u "([CIILjava/lang/Void;)V"), (8, .fieldref 10 39), (0, .nameAndType 40 26), (0, u "COMPACT_STRINGS"), (1, .class_ 44), (1, u "java/lang/StringUTF16"), (0, u "compress"), (1, .methodref 42 48), (0, .nameAndType 49 50), (0, u "coderFromArrayLen"), (0, u "([BI)B"), (56, .class_ 109), (1, u "java/lang/StringLatin1"), (32, u "()Z"), (34, .methodref 42 178), (0, .nameAndType 45 179), (0, u "([CII)[B"), (154, u "()I"), (0, .methodref 10 336), (0, .nameAndType 17 337), (0, u "()B"), (25, u "([BI)C"), (27, u "(II)V"), (35, u "(I)C"), (64, .methodref 10 493), (0, .nameAndType 494 142), (0, u "isLatin1"), (0, .methodref 107 496), (0, .nameAndType 497 363), (0, u "charAt"), (0, .methodref 42 496), (2, u "checkIndex"), (3, .methodref 10 506), (0, .nameAndType 507 334), (0, u "length"), (5, u "checkFromToIndex"), (9, u "checkBoundsBeginEnd"), (0, u "(III)V"), (50, .class_ 576), (0, u "java/lang/CharSequence"), (22, u "CASE_INSENSITIVE_ORDER"), (0, u "Ljava/util/Comparator;"), (32, .methodref 10 634), (0, .nameAndType 635 636), (0, u "indexOf"), (0, u "(II)I"), (0, .methodref 107 638), (0, .nameAndType 635 639), (0, u "([BIII)I"), (0, .methodref 42 638), (124, u "(I)I"), (244, u "([C)V"), (42, .fieldref 1054 1055), (0, .class_ 1056), (0, .nameAndType 1057 1058), (0, u "jdk/internal/util/Preconditions"), (0, u "SIOOBE_FORMATTER"), (0, u "Ljava/util/function/BiFunction;"), (0, .methodref 1054 1060), (0, .nameAndType 501 1061), (0, u "(IILjava/util/function/BiFunction;)I"), (0, .methodref 1054 1063), (0, .nameAndType 513 1064), (0, u "(IIILjava/util/function/BiFunction;)I"), (36, u "serialPersistentFields"), (0, u "[Ljava/io/ObjectStreamField;"), (0, .class_ 1104), (0, u "java/lang/String$CaseInsensitiveComparator"), (1, .class_ 1107), (0, u "java/io/Serializable"), (0, .class_ 1109), (0, u "java/lang/Comparable"), (0, .class_ 1111), (0, u "java/lang/constant/Constable"), (0, .class_ 1113), (0, u "java/lang/constant/ConstantDesc"), (2, u "serialVersionUID"), (0, u "J"), (3, u "REPL"), (0, u "C"), (2, u "LATIN1"), (1, u "UTF16")] 323

def k7m0 : Method := { name := "<init>", desc := "()V", sig := { parameters := [], returnType := none }, accessFlags := 1, code := none }
def k7c1 : Code := { maxStack := 5, maxLocals := 2, code := jdk_42_method_3_code, exceptionTable := #[], attributes := #[] }
def k7m1 : Method := { name := "<init>", desc := "([C)V", sig := { parameters := [(.array .char)], returnType := none }, accessFlags := 1, code := some k7c1 }
def k7c2 : Code := { maxStack := 2, maxLocals := 1, code := jdk_42_method_54_code, exceptionTable := #[], attributes := #[] }
def k7m2 : Method := { name := "length", desc := "()I", sig := { parameters := [], returnType := some .int }, accessFlags := 1, code := some k7c2 }
def k7c3 : Code := { maxStack := 2, maxLocals := 2, code := jdk_42_method_56_code, exceptionTable := #[], attributes := #[] }
def k7m3 : Method := { name := "charAt", desc := "(I)C", sig := { parameters := [.int], returnType := some .char }, accessFlags := 1, code := some k7c3 }
def k7c4 : Code := { maxStack := 3, maxLocals := 2, code := jdk_42_method_79_code, exceptionTable := #[], attributes := #[] }
def k7m4 : Method := { name := "indexOf", desc := "(I)I", sig := { parameters := [.int], returnType := some .int }, accessFlags := 1, code := some k7c4 }
def k7c5 : Code := { maxStack := 4, maxLocals := 3, code := jdk_42_method_80_code, exceptionTable := #[], attributes := #[] }
def k7m5 : Method := { name := "indexOf", desc := "(II)I", sig := { parameters := [.int, .int], returnType := some .int }, accessFlags := 1, code := some k7c5 }
def k7c6 : Code := { maxStack := 4, maxLocals := 6, code := jdk_42_method_149_code, exceptionTable := #[], attributes := #[] }
def k7m6 : Method := { name := "<init>", desc := "([CIILjava/lang/Void;)V", sig := { parameters := [(.array .char), .int, .int, (.object "java/lang/Void")], returnType := none }, accessFlags := 2, code := some k7c6 }
def k7c7 : Code := { maxStack := 1, maxLocals := 1, code := jdk_42_method_152_code, exceptionTable := #[], attributes := #[] }
def k7m7 : Method := { name := "coder", desc := "()B", sig := { parameters := [], returnType := some .byte }, accessFlags := 0, code := some k7c7 }
def k7c8 : Code := { maxStack := 1, maxLocals := 1, code := jdk_42_method_154_code, exceptionTable := #[], attributes := #[] }
def k7m8 : Method := { name := "isLatin1", desc := "()Z", sig := { parameters := [], returnType := some .boolean }, accessFlags := 0, code := some k7c8 }
def k7c9 : Code := { maxStack := 3, maxLocals := 2, code := jdk_42_method_155_code, exceptionTable := #[], attributes := #[] }
def k7m9 : Method := { name := "checkIndex", desc := "(II)V", sig := { parameters := [.int, .int], returnType := none }, accessFlags := 8, code := some k7c9 }
def k7c10 : Code := { maxStack := 4, maxLocals := 3, code := jdk_42_method_158_code, exceptionTable := #[], attributes := #[] }
def k7m10 : Method := { name := "checkBoundsBeginEnd", desc := "(III)V", sig := { parameters := [.int, .int, .int], returnType := none }, accessFlags := 8, code := some k7c10 }
/-- java/lang/String -/
def k7 : Class := { plain "java/lang/String" (some 0) with
  accessFlags := 49
  interfaces := #[2, 3, 4, 5, 6]
  cf := some (fileOf pool7 10 #[.nestMembers #[1103]] #[{ accessFlags := 1, nameIndex := 5, descriptorIndex := 6, attributes := #[] }, { accessFlags := 1, nameIndex := 5, descriptorIndex := 1010, attributes := #[] }, { accessFlags := 1, nameIndex := 507, descriptorIndex := 334, attributes := #[] }, { accessFlags := 1, nameIndex := 497, descriptorIndex := 427, attributes := #[] }, { accessFlags := 1, nameIndex := 635, descriptorIndex := 765, attributes := #[] }, { accessFlags := 1, nameIndex := 635, descriptorIndex := 636, attributes := #[] }, { accessFlags := 2, nameIndex := 5, descriptorIndex := 29, attributes := #[] }, { accessFlags := 0, nameIndex := 17, descriptorIndex := 337, attributes := #[] }, { accessFlags := 0, nameIndex := 494, descriptorIndex := 142, attributes := #[] }, { accessFlags := 8, nameIndex := 501, descriptorIndex := 391, attributes := #[] }, { accessFlags := 8, nameIndex := 523, descriptorIndex := 524, attributes := #[] }] 49 2 #[1106, 1108, 575, 1110, 1112] #[{ accessFlags := 18, nameIndex := 13, descriptorIndex := 14, attributes := #[] }, { accessFlags := 18, nameIndex := 17, descriptorIndex := 18, attributes := #[] }, { accessFlags := 2, nameIndex := 21, descriptorIndex := 22, attributes := #[] }, { accessFlags := 2, nameIndex := 25, descriptorIndex := 26, attributes := #[] }, { accessFlags := 26, nameIndex := 1116, descriptorIndex := 1117, attributes := #[] }, { accessFlags := 24, nameIndex := 40, descriptorIndex := 26, attributes := #[] }, { accessFlags := 26, nameIndex := 1101, descriptorIndex := 1102, attributes := #[] }, { accessFlags := 26, nameIndex := 1121, descriptorIndex := 1122, attributes := #[] }, { accessFlags := 25, nameIndex := 599, descriptorIndex := 600, attributes := #[] }, { accessFlags := 24, nameIndex := 1125, descriptorIndex := 18, attributes := #[] }, { accessFlags := 24, nameIndex := 1127, descriptorIndex := 18, attributes := #[] }])
  fields := #[{ name := "value", type := (.array .byte), accessFlags := 18, slot := 0, constantValue := 0 }, { name := "coder", type := .byte, accessFlags := 18, slot := 1, constantValue := 0 }, { name := "hash", type := .int, accessFlags := 2, slot := 2, constantValue := 0 }, { name := "hashIsZero", type := .boolean, accessFlags := 2, slot := 3, constantValue := 0 }, { name := "serialVersionUID", type := .long, accessFlags := 26, slot := 0, constantValue := 0 }, { name := "COMPACT_STRINGS", type := .boolean, accessFlags := 24, slot := 1, constantValue := 0 }, { name := "serialPersistentFields", type := (.array (.object "java/io/ObjectStreamField")), accessFlags := 26, slot := 2, constantValue := 0 }, { name := "REPL", type := .char, accessFlags := 26, slot := 3, constantValue := 0 }, { name := "CASE_INSENSITIVE_ORDER", type := (.object "java/util/Comparator"), accessFlags := 25, slot := 4, constantValue := 0 }, { name := "LATIN1", type := .byte, accessFlags := 24, slot := 5, constantValue := 0 }, { name := "UTF16", type := .byte, accessFlags := 24, slot := 6, constantValue := 0 }]
  methods := #[k7m0, k7m1, k7m2, k7m3, k7m4, k7m5, k7m6, k7m7, k7m8, k7m9, k7m10]
  instanceTypes := #[(.array .byte), .byte, .int, .boolean]
  staticTypes := #[.long, .boolean, (.array (.object "java/io/ObjectStreamField")), .char, (.object "java/util/Comparator"), .byte, .byte]
  resolved := Array.replicate 1451 none
  statics := some 0 }

def pool8 : Array CpInfo := pool [(1, .class_ 2), (0, u "java/lang/String"), (1, .class_ 6), (1, u "java/lang/Object"), (0, u "<init>"), (0, u "()V"), (0, .methodref 1 10), (0, .nameAndType 11 12), (0, u "checkIndex"), (0, u "(II)V"), (1, .class_ 16), (1, u "java/lang/StringLatin1"), (21, .methodref 39 40), (0, .class_ 41), (0, .nameAndType 42 43), (0, u "java/lang/Math"), (0, u "min"), (0, u "(II)I"), (9, u "([BI)C"), (34, .methodref 14 89), (0, .nameAndType 90 91), (0, u "canEncode"), (0, u "(I)Z"), (0, .methodref 39 93), (0, .nameAndType 94 43), (0, u "max"), (0, .methodref 14 96), (0, .nameAndType 97 98), (0, u "indexOfChar"), (0, u "([BIII)I"), (2, u "indexOf"), (19, u "$assertionsDisabled"), (0, u "Z"), (98, .class_ 223), (1, u "java/lang/StringLatin1$LinesSpliterator"), (28, u "charAt"), (137, .class_ 391), (0, u "java/lang/StringLatin1$CharsSpliterator")] 3

def k8m0 : Method := { name := "<init>", desc := "()V", sig := { parameters := [], returnType := none }, accessFlags := 0, code := none }
def k8c1 : Code := { maxStack := 2, maxLocals := 2, code := jdk_43_method_2_code, exceptionTable := #[], attributes := #[] }
def k8m1 : Method := { name := "charAt", desc := "([BI)C", sig := { parameters := [(.array .byte), .int], returnType := some .char }, accessFlags := 9, code := some k8c1 }
def k8c2 : Code := { maxStack := 2, maxLocals := 1, code := jdk_43_method_4_code, exceptionTable := #[], attributes := #[] }
def k8m2 : Method := { name := "canEncode", desc := "(I)Z", sig := { parameters := [.int], returnType := some .boolean }, accessFlags := 9, code := some k8c2 }
def k8c3 : Code := { maxStack := 4, maxLocals := 4, code := jdk_43_method_22_code, exceptionTable := #[], attributes := #[] }
def k8m3 : Method := { name := "indexOf", desc := "([BIII)I", sig := { parameters := [(.array .byte), .int, .int, .int], returnType := some .int }, accessFlags := 9, code := some k8c3 }
def k8c4 : Code := { maxStack := 2, maxLocals := 6, code := jdk_43_method_23_code, exceptionTable := #[], attributes := #[] }
def k8m4 : Method := { name := "indexOfChar", desc := "([BIII)I", sig := { parameters := [(.array .byte), .int, .int, .int], returnType := some .int }, accessFlags := 10, code := some k8c4 }
/-- java/lang/StringLatin1 -/
def k8 : Class := { plain "java/lang/StringLatin1" (some 0) with
  accessFlags := 48
  interfaces := #[]
  cf := some (fileOf pool8 14 #[.nestMembers #[390, 221]] #[{ accessFlags := 0, nameIndex := 7, descriptorIndex := 8, attributes := #[] }, { accessFlags := 9, nameIndex := 252, descriptorIndex := 53, attributes := #[] }, { accessFlags := 9, nameIndex := 90, descriptorIndex := 91, attributes := #[] }, { accessFlags := 9, nameIndex := 101, descriptorIndex := 98, attributes := #[] }, { accessFlags := 10, nameIndex := 97, descriptorIndex := 98, attributes := #[] }] 48 4 #[] #[{ accessFlags := 4120, nameIndex := 121, descriptorIndex := 122, attributes := #[] }])
  fields := #[{ name := "$assertionsDisabled", type := .boolean, accessFlags := 4120, slot := 0, constantValue := 0 }]
  methods := #[k8m0, k8m1, k8m2, k8m3, k8m4]
  instanceTypes := #[]
  staticTypes := #[.boolean]
  resolved := Array.replicate 395 none
  statics := none }

def pool9 : Array CpInfo := pool [(2, .class_ 4), (1, u "java/lang/Object"), (0, u "<init>"), (0, u "()V"), (17, .class_ 26), (1, u "jdk/internal/util/Preconditions"), (6, u "checkIndex"), (13, u "checkFromToIndex"), (7, .class_ 56), (0, u "jdk/internal/util/Preconditions$4"), (57, .class_ 115), (0, u "jdk/internal/util/Preconditions$1"), (7, u "SIOOBE_FORMATTER"), (0, u "Ljava/util/function/BiFunction;"), (0, .class_ 126), (0, u "jdk/internal/util/Preconditions$2"), (3, u "AIOOBE_FORMATTER"), (0, .class_ 132), (0, u "jdk/internal/util/Preconditions$3"), (3, u "IOOBE_FORMATTER"), (41, u "(IILjava/util/function/BiFunction;)I"), (4, u "(IIILjava/util/function/BiFunction;)I")] 10

def k9m0 : Method := { name := "<init>", desc := "()V", sig := { parameters := [], returnType := none }, accessFlags := 1, code := none }
def k9c1 : Code := { maxStack := 3, maxLocals := 3, code := jdk_41_method_11_code, exceptionTable := #[], attributes := #[] }
def k9m1 : Method := { name := "checkIndex", desc := "(IILjava/util/function/BiFunction;)I", sig := { parameters := [.int, .int, (.object "java/util/function/BiFunction")], returnType := some .int }, accessFlags := 9, code := some k9c1 }
def k9c2 : Code := { maxStack := 4, maxLocals := 4, code := jdk_41_method_12_code, exceptionTable := #[], attributes := #[] }
def k9m2 : Method := { name := "checkFromToIndex", desc := "(IIILjava/util/function/BiFunction;)I", sig := { parameters := [.int, .int, .int, (.object "java/util/function/BiFunction")], returnType := some .int }, accessFlags := 9, code := some k9c2 }
/-- jdk/internal/util/Preconditions -/
def k9 : Class := { plain "jdk/internal/util/Preconditions" (some 0) with
  accessFlags := 33
  interfaces := #[]
  cf := some (fileOf pool9 24 #[.nestMembers #[55, 131, 125, 114]] #[{ accessFlags := 1, nameIndex := 5, descriptorIndex := 6, attributes := #[] }, { accessFlags := 9, nameIndex := 33, descriptorIndex := 178, attributes := #[] }, { accessFlags := 9, nameIndex := 47, descriptorIndex := 183, attributes := #[] }] 33 2 #[] #[{ accessFlags := 25, nameIndex := 123, descriptorIndex := 124, attributes := #[] }, { accessFlags := 25, nameIndex := 130, descriptorIndex := 124, attributes := #[] }, { accessFlags := 25, nameIndex := 136, descriptorIndex := 124, attributes := #[] }])
  fields := #[{ name := "SIOOBE_FORMATTER", type := (.object "java/util/function/BiFunction"), accessFlags := 25, slot := 0, constantValue := 0 }, { name := "AIOOBE_FORMATTER", type := (.object "java/util/function/BiFunction"), accessFlags := 25, slot := 1, constantValue := 0 }, { name := "IOOBE_FORMATTER", type := (.object "java/util/function/BiFunction"), accessFlags := 25, slot := 2, constantValue := 0 }]
  methods := #[k9m0, k9m1, k9m2]
  instanceTypes := #[]
  staticTypes := #[(.object "java/util/function/BiFunction"), (.object "java/util/function/BiFunction"), (.object "java/util/function/BiFunction")]
  resolved := Array.replicate 194 none
  statics := some 1 }

def pool10 : Array CpInfo := pool [(2, .class_ 4), (1, u "java/lang/Object"), (0, u "<init>"), (0, u "()V"), (2, .methodref 10 11), (0, .class_ 12), (0, .nameAndType 13 14), (0, u "java/lang/String"), (0, u "indexOf"), (0, u "(I)I"), (14, .class_ 31), (1, u "com/example/grantline/grantline/PercentEncoding"), (25, .methodref 10 58), (0, .nameAndType 59 60), (0, u "length"), (0, u "()I"), (6, .methodref 10 68), (0, .nameAndType 69 70), (0, u "charAt"), (0, u "(I)C"), (0, .methodref 29 72), (0, .nameAndType 73 74), (0, u "encodedByte"), (0, u "(Ljava/lang/String;I)I"), (10, .methodref 10 86), (0, .nameAndType 13 87), (0, u "(II)I"), (0, .methodref 29 89), (0, .nameAndType 90 74), (0, u "hexDigit"), (42, u "hasBadEscape"), (0, u "(Ljava/lang/String;)Z")] 2

def k10m0 : Method := { name := "<init>", desc := "()V", sig := { parameters := [], returnType := none }, accessFlags := 2, code := none }
def k10c1 : Code := { maxStack := 4, maxLocals := 2, code := prog_19_method_6_code, exceptionTable := #[], attributes := #[] }
def k10m1 : Method := { name := "hasBadEscape", desc := "(Ljava/lang/String;)Z", sig := { parameters := [(.object "java/lang/String")], returnType := some .boolean }, accessFlags := 8, code := some k10c1 }
def k10c2 : Code := { maxStack := 3, maxLocals := 4, code := prog_19_method_7_code, exceptionTable := #[], attributes := #[] }
def k10m2 : Method := { name := "encodedByte", desc := "(Ljava/lang/String;I)I", sig := { parameters := [(.object "java/lang/String"), .int], returnType := some .int }, accessFlags := 10, code := some k10c2 }
def k10c3 : Code := { maxStack := 2, maxLocals := 4, code := prog_19_method_8_code, exceptionTable := #[], attributes := #[] }
def k10m3 : Method := { name := "hexDigit", desc := "(Ljava/lang/String;I)I", sig := { parameters := [(.object "java/lang/String"), .int], returnType := some .int }, accessFlags := 10, code := some k10c3 }
/-- com/example/grantline/grantline/PercentEncoding -/
def k10 : Class := { plain "com/example/grantline/grantline/PercentEncoding" (some 0) with
  accessFlags := 48
  interfaces := #[]
  cf := some (fileOf pool10 29 #[] #[{ accessFlags := 2, nameIndex := 5, descriptorIndex := 6, attributes := #[] }, { accessFlags := 8, nameIndex := 133, descriptorIndex := 134, attributes := #[] }, { accessFlags := 10, nameIndex := 73, descriptorIndex := 74, attributes := #[] }, { accessFlags := 10, nameIndex := 90, descriptorIndex := 74, attributes := #[] }] 48 2 #[] #[])
  fields := #[]
  methods := #[k10m0, k10m1, k10m2, k10m3]
  instanceTypes := #[]
  staticTypes := #[]
  resolved := Array.replicate 137 none
  statics := none }

def pool11 : Array CpInfo := pool [(1, .class_ 2), (0, u "java/lang/Math"), (1, .class_ 6), (1, u "java/lang/Object"), (0, u "<init>"), (0, u "()V"), (89, .class_ 100), (1, u "java/lang/Math$RandomNumberGeneratorHolder"), (71, u "negativeZeroFloatBits"), (0, u "J"), (2, u "negativeZeroDoubleBits"), (21, u "max"), (2, u "min"), (43, u "$assertionsDisabled"), (0, u "Z"), (88, u "(II)I"), (2, u "twoToTheDoubleScaleDown"), (0, u "D"), (4, u "twoToTheDoubleScaleUp"), (9, u "E"), (3, u "PI"), (2, u "TAU"), (2, u "DEGREES_TO_RADIANS"), (0, u "RADIANS_TO_DEGREES")] 94

def k11m0 : Method := { name := "<init>", desc := "()V", sig := { parameters := [], returnType := none }, accessFlags := 2, code := none }
def k11c1 : Code := { maxStack := 2, maxLocals := 2, code := jdk_29_method_65_code, exceptionTable := #[], attributes := #[] }
def k11m1 : Method := { name := "max", desc := "(II)I", sig := { parameters := [.int, .int], returnType := some .int }, accessFlags := 9, code := some k11c1 }
def k11c2 : Code := { maxStack := 2, maxLocals := 2, code := jdk_29_method_69_code, exceptionTable := #[], attributes := #[] }
def k11m2 : Method := { name := "min", desc := "(II)I", sig := { parameters := [.int, .int], returnType := some .int }, accessFlags := 9, code := some k11c2 }
/-- java/lang/Math -/
def k11 : Class := { plain "java/lang/Math" (some 0) with
  accessFlags := 49
  interfaces := #[]
  cf := some (fileOf pool11 1 #[.nestMembers #[98]] #[{ accessFlags := 2, nameIndex := 7, descriptorIndex := 8, attributes := #[] }, { accessFlags := 9, nameIndex := 198, descriptorIndex := 335, attributes := #[] }, { accessFlags := 9, nameIndex := 201, descriptorIndex := 335, attributes := #[] }] 49 4 #[] #[{ accessFlags := 25, nameIndex := 354, descriptorIndex := 339, attributes := #[] }, { accessFlags := 25, nameIndex := 358, descriptorIndex := 339, attributes := #[] }, { accessFlags := 25, nameIndex := 361, descriptorIndex := 339, attributes := #[] }, { accessFlags := 26, nameIndex := 364, descriptorIndex := 339, attributes := #[] }, { accessFlags := 26, nameIndex := 365, descriptorIndex := 339, attributes := #[] }, { accessFlags := 26, nameIndex := 172, descriptorIndex := 173, attributes := #[] }, { accessFlags := 26, nameIndex := 176, descriptorIndex := 173, attributes := #[] }, { accessFlags := 8, nameIndex := 344, descriptorIndex := 339, attributes := #[] }, { accessFlags := 8, nameIndex := 338, descriptorIndex := 339, attributes := #[] }, { accessFlags := 4120, nameIndex := 245, descriptorIndex := 246, attributes := #[] }])
  fields := #[{ name := "E", type := .double, accessFlags := 25, slot := 0, constantValue := 0 }, { name := "PI", type := .double, accessFlags := 25, slot := 1, constantValue := 0 }, { name := "TAU", type := .double, accessFlags := 25, slot := 2, constantValue := 0 }, { name := "DEGREES_TO_RADIANS", type := .double, accessFlags := 26, slot := 3, constantValue := 0 }, { name := "RADIANS_TO_DEGREES", type := .double, accessFlags := 26, slot := 4, constantValue := 0 }, { name := "negativeZeroFloatBits", type := .long, accessFlags := 26, slot := 5, constantValue := 0 }, { name := "negativeZeroDoubleBits", type := .long, accessFlags := 26, slot := 6, constantValue := 0 }, { name := "twoToTheDoubleScaleUp", type := .double, accessFlags := 8, slot := 7, constantValue := 0 }, { name := "twoToTheDoubleScaleDown", type := .double, accessFlags := 8, slot := 8, constantValue := 0 }, { name := "$assertionsDisabled", type := .boolean, accessFlags := 4120, slot := 9, constantValue := 0 }]
  methods := #[k11m0, k11m1, k11m2]
  instanceTypes := #[]
  staticTypes := #[.double, .double, .double, .double, .double, .long, .long, .double, .double, .boolean]
  resolved := Array.replicate 460 none
  statics := none }

def pool12 : Array CpInfo := pool [(3, .class_ 4), (0, u "java/lang/String"), (1, .class_ 8), (1, u "java/lang/Object"), (0, u "<init>"), (0, u "()V"), (0, .methodref 12 13), (0, .class_ 14), (0, .nameAndType 15 16), (0, u "java/lang/StringUTF16"), (0, u "newBytesLength"), (0, u "(I)I"), (3, .integer 1073741823), (23, .fieldref 12 45), (0, .nameAndType 46 47), (0, u "$assertionsDisabled"), (0, u "Z"), (0, .methodref 12 49), (0, .nameAndType 50 51), (0, u "length"), (0, u "([B)I"), (7, .fieldref 12 60), (0, .nameAndType 61 62), (0, u "HI_BYTE_SHIFT"), (0, u "I"), (0, .fieldref 12 64), (0, .nameAndType 65 62), (0, u "LO_BYTE_SHIFT"), (1, .methodref 12 68), (0, .nameAndType 69 70), (0, u "checkIndex"), (0, u "(I[B)V"), (0, .methodref 12 72), (0, .nameAndType 73 74), (0, u "getChar"), (0, u "([BI)C"), (21, .methodref 12 97), (0, .nameAndType 98 99), (0, u "checkBoundsBeginEnd"), (0, u "(II[B)V"), (7, .methodref 12 108), (0, .nameAndType 109 110), (0, u "newBytesFor"), (0, u "(I)[B"), (0, .methodref 12 112), (0, .nameAndType 113 114), (0, u "putChar"), (0, u "([BII)V"), (0, .methodref 12 116), (0, .nameAndType 117 118), (0, u "compress"), (0, u "([CI[BII)I"), (0, .methodref 12 120), (0, .nameAndType 121 122), (0, u "toBytes"), (0, u "([CII)[B"), (60, .methodref 184 185), (0, .class_ 186), (0, .nameAndType 187 188), (0, u "java/lang/Math"), (0, u "min"), (0, u "(II)I"), (35, .methodref 184 225), (0, .nameAndType 226 188), (0, u "max"), (0, .integer 65536), (0, .methodref 12 229), (0, .nameAndType 230 231), (0, u "indexOfChar"), (0, u "([BIII)I"), (9, .methodref 3 242), (0, .nameAndType 98 243), (0, u "(III)V"), (0, .methodref 12 245), (0, .nameAndType 246 231), (0, u "indexOfCharUnsafe"), (14, u "coderFromArrayLen"), (0, u "([BI)B"), (5, u "indexOf"), (100, .class_ 371), (1, u "java/lang/StringUTF16$LinesSpliterator"), (20, u "charAt"), (21, .methodref 3 415), (0, .nameAndType 69 416), (0, u "(II)V"), (13, u "MAX_LENGTH"), (196, .class_ 628), (0, u "java/lang/StringUTF16$CodePointsSpliterator"), (0, .class_ 630), (0, u "java/lang/StringUTF16$CharsSpliterator")] 4

def k12m0 : Method := { name := "<init>", desc := "()V", sig := { parameters := [], returnType := none }, accessFlags := 0, code := none }
def k12c1 : Code := { maxStack := 1, maxLocals := 1, code := jdk_52_method_2_code, exceptionTable := #[], attributes := #[] }
def k12m1 : Method := { name := "newBytesFor", desc := "(I)[B", sig := { parameters := [.int], returnType := some (.array .byte) }, accessFlags := 9, code := some k12c1 }
def k12c2 : Code := { maxStack := 4, maxLocals := 1, code := jdk_52_method_3_code, exceptionTable := #[], attributes := #[] }
def k12m2 : Method := { name := "newBytesLength", desc := "(I)I", sig := { parameters := [.int], returnType := some .int }, accessFlags := 9, code := some k12c2 }
def k12c3 : Code := { maxStack := 4, maxLocals := 3, code := jdk_52_method_4_code, exceptionTable := #[], attributes := #[] }
def k12m3 : Method := { name := "putChar", desc := "([BII)V", sig := { parameters := [(.array .byte), .int, .int], returnType := none }, accessFlags := 8, code := some k12c3 }
def k12c4 : Code := { maxStack := 3, maxLocals := 2, code := jdk_52_method_5_code, exceptionTable := #[], attributes := #[] }
def k12m4 : Method := { name := "getChar", desc := "([BI)C", sig := { parameters := [(.array .byte), .int], returnType := some .char }, accessFlags := 8, code := some k12c4 }
def k12c5 : Code := { maxStack := 2, maxLocals := 1, code := jdk_52_method_6_code, exceptionTable := #[], attributes := #[] }
def k12m5 : Method := { name := "length", desc := "([B)I", sig := { parameters := [(.array .byte)], returnType := some .int }, accessFlags := 9, code := some k12c5 }
def k12c6 : Code := { maxStack := 4, maxLocals := 5, code := jdk_52_method_14_code, exceptionTable := #[], attributes := #[] }
def k12m6 : Method := { name := "toBytes", desc := "([CII)[B", sig := { parameters := [(.array .char), .int, .int], returnType := some (.array .byte) }, accessFlags := 9, code := some k12c6 }
def k12c7 : Code := { maxStack := 2, maxLocals := 2, code := jdk_52_method_15_code, exceptionTable := #[], attributes := #[] }
def k12m7 : Method := { name := "coderFromArrayLen", desc := "([BI)B", sig := { parameters := [(.array .byte), .int], returnType := some .byte }, accessFlags := 8, code := some k12c7 }
def k12c8 : Code := { maxStack := 5, maxLocals := 6, code := jdk_52_method_16_code, exceptionTable := #[], attributes := #[] }
def k12m8 : Method := { name := "compress", desc := "([CII)[B", sig := { parameters := [(.array .char), .int, .int], returnType := some (.array .byte) }, accessFlags := 9, code := some k12c8 }
def k12c9 : Code := { maxStack := 3, maxLocals := 7, code := jdk_52_method_21_code, exceptionTable := #[], attributes := #[] }
def k12m9 : Method := { name := "compress", desc := "([CI[BII)I", sig := { parameters := [(.array .char), .int, (.array .byte), .int, .int], returnType := some .int }, accessFlags := 9, code := some k12c9 }
def k12c10 : Code := { maxStack := 4, maxLocals := 4, code := jdk_52_method_40_code, exceptionTable := #[], attributes := #[] }
def k12m10 : Method := { name := "indexOf", desc := "([BIII)I", sig := { parameters := [(.array .byte), .int, .int, .int], returnType := some .int }, accessFlags := 9, code := some k12c10 }
def k12c11 : Code := { maxStack := 4, maxLocals := 4, code := jdk_52_method_47_code, exceptionTable := #[], attributes := #[] }
def k12m11 : Method := { name := "indexOfChar", desc := "([BIII)I", sig := { parameters := [(.array .byte), .int, .int, .int], returnType := some .int }, accessFlags := 10, code := some k12c11 }
def k12c12 : Code := { maxStack := 2, maxLocals := 5, code := jdk_52_method_48_code, exceptionTable := #[], attributes := #[] }
def k12m12 : Method := { name := "indexOfCharUnsafe", desc := "([BIII)I", sig := { parameters := [(.array .byte), .int, .int, .int], returnType := some .int }, accessFlags := 10, code := some k12c12 }
def k12c13 : Code := { maxStack := 2, maxLocals := 2, code := jdk_52_method_83_code, exceptionTable := #[], attributes := #[] }
def k12m13 : Method := { name := "charAt", desc := "([BI)C", sig := { parameters := [(.array .byte), .int], returnType := some .char }, accessFlags := 9, code := some k12c13 }
def k12c14 : Code := { maxStack := 2, maxLocals := 2, code := jdk_52_method_91_code, exceptionTable := #[], attributes := #[] }
def k12m14 : Method := { name := "checkIndex", desc := "(I[B)V", sig := { parameters := [.int, (.array .byte)], returnType := none }, accessFlags := 9, code := some k12c14 }
def k12c15 : Code := { maxStack := 3, maxLocals := 3, code := jdk_52_method_93_code, exceptionTable := #[], attributes := #[] }
def k12m15 : Method := { name := "checkBoundsBeginEnd", desc := "(II[B)V", sig := { parameters := [.int, .int, (.array .byte)], returnType := none }, accessFlags := 9, code := some k12c15 }
/-- java/lang/StringUTF16 -/
def k12 : Class := { plain "java/lang/StringUTF16" (some 0) with
  accessFlags := 48
  interfaces := #[]
  cf := some (fileOf pool12 12 #[.nestMembers #[627, 629, 369]] #[{ accessFlags := 0, nameIndex := 9, descriptorIndex := 10, attributes := #[] }, { accessFlags := 9, nameIndex := 109, descriptorIndex := 110, attributes := #[] }, { accessFlags := 9, nameIndex := 15, descriptorIndex := 16, attributes := #[] }, { accessFlags := 8, nameIndex := 113, descriptorIndex := 114, attributes := #[] }, { accessFlags := 8, nameIndex := 73, descriptorIndex := 74, attributes := #[] }, { accessFlags := 9, nameIndex := 50, descriptorIndex := 51, attributes := #[] }, { accessFlags := 9, nameIndex := 121, descriptorIndex := 122, attributes := #[] }, { accessFlags := 8, nameIndex := 261, descriptorIndex := 262, attributes := #[] }, { accessFlags := 9, nameIndex := 117, descriptorIndex := 122, attributes := #[] }, { accessFlags := 9, nameIndex := 117, descriptorIndex := 118, attributes := #[] }, { accessFlags := 9, nameIndex := 268, descriptorIndex := 231, attributes := #[] }, { accessFlags := 10, nameIndex := 230, descriptorIndex := 231, attributes := #[] }, { accessFlags := 10, nameIndex := 246, descriptorIndex := 231, attributes := #[] }, { accessFlags := 9, nameIndex := 392, descriptorIndex := 74, attributes := #[] }, { accessFlags := 9, nameIndex := 69, descriptorIndex := 70, attributes := #[] }, { accessFlags := 9, nameIndex := 98, descriptorIndex := 99, attributes := #[] }] 48 6 #[] #[{ accessFlags := 26, nameIndex := 61, descriptorIndex := 62, attributes := #[] }, { accessFlags := 26, nameIndex := 65, descriptorIndex := 62, attributes := #[] }, { accessFlags := 24, nameIndex := 430, descriptorIndex := 62, attributes := #[] }, { accessFlags := 4120, nameIndex := 46, descriptorIndex := 47, attributes := #[] }])
  fields := #[{ name := "HI_BYTE_SHIFT", type := .int, accessFlags := 26, slot := 0, constantValue := 0 }, { name := "LO_BYTE_SHIFT", type := .int, accessFlags := 26, slot := 1, constantValue := 0 }, { name := "MAX_LENGTH", type := .int, accessFlags := 24, slot := 2, constantValue := 0 }, { name := "$assertionsDisabled", type := .boolean, accessFlags := 4120, slot := 3, constantValue := 0 }]
  methods := #[k12m0, k12m1, k12m2, k12m3, k12m4, k12m5, k12m6, k12m7, k12m8, k12m9, k12m10, k12m11, k12m12, k12m13, k12m14, k12m15]
  instanceTypes := #[]
  staticTypes := #[.int, .int, .int, .boolean]
  resolved := Array.replicate 635 none
  statics := some 2 }

def pool13 : Array CpInfo := pool [(9, u "<init>"), (6, .class_ 18), (1, u "java/lang/Object"), (0, u "()V"), (1, .class_ 23), (1, u "jdk/internal/util/ArraysSupport"), (0, u "LOG2_ARRAY_LONG_INDEX_SCALE"), (0, u "I"), (2, u "U"), (0, u "Ljdk/internal/misc/Unsafe;"), (8, u "BIG_ENDIAN"), (0, u "Z"), (8, u "LOG2_BYTE_BIT_SIZE"), (4, u "LOG2_ARRAY_INT_INDEX_SCALE"), (54, u "JLA"), (0, u "Ljdk/internal/access/JavaLangAccess;"), (11, u "LOG2_ARRAY_BOOLEAN_INDEX_SCALE"), (9, u "LOG2_ARRAY_BYTE_INDEX_SCALE"), (5, u "LOG2_ARRAY_CHAR_INDEX_SCALE"), (5, u "LOG2_ARRAY_SHORT_INDEX_SCALE"), (18, u "LOG2_ARRAY_FLOAT_INDEX_SCALE"), (24, u "LOG2_ARRAY_DOUBLE_INDEX_SCALE"), (89, u "T_BOOLEAN"), (2, u "T_CHAR"), (1, u "T_FLOAT"), (1, u "T_DOUBLE"), (1, u "T_BYTE"), (1, u "T_SHORT"), (1, u "T_INT"), (1, u "T_LONG"), (1, u "SOFT_MAX_ARRAY_LENGTH")] 83

def k13m0 : Method := { name := "<init>", desc := "()V", sig := { parameters := [], returnType := none }, accessFlags := 2, code := none }
/-- jdk/internal/util/ArraysSupport -/
def k13 : Class := { plain "jdk/internal/util/ArraysSupport" (some 0) with
  accessFlags := 33
  interfaces := #[]
  cf := some (fileOf pool13 21 #[] #[{ accessFlags := 2, nameIndex := 9, descriptorIndex := 19, attributes := #[] }] 33 16 #[] #[{ accessFlags := 24, nameIndex := 28, descriptorIndex := 29, attributes := #[] }, { accessFlags := 26, nameIndex := 38, descriptorIndex := 39, attributes := #[] }, { accessFlags := 25, nameIndex := 121, descriptorIndex := 25, attributes := #[] }, { accessFlags := 25, nameIndex := 131, descriptorIndex := 25, attributes := #[] }, { accessFlags := 25, nameIndex := 137, descriptorIndex := 25, attributes := #[] }, { accessFlags := 25, nameIndex := 143, descriptorIndex := 25, attributes := #[] }, { accessFlags := 25, nameIndex := 53, descriptorIndex := 25, attributes := #[] }, { accessFlags := 25, nameIndex := 24, descriptorIndex := 25, attributes := #[] }, { accessFlags := 25, nameIndex := 162, descriptorIndex := 25, attributes := #[] }, { accessFlags := 25, nameIndex := 187, descriptorIndex := 25, attributes := #[] }, { accessFlags := 26, nameIndex := 48, descriptorIndex := 25, attributes := #[] }, { accessFlags := 25, nameIndex := 277, descriptorIndex := 25, attributes := #[] }, { accessFlags := 25, nameIndex := 280, descriptorIndex := 25, attributes := #[] }, { accessFlags := 25, nameIndex := 282, descriptorIndex := 25, attributes := #[] }, { accessFlags := 25, nameIndex := 284, descriptorIndex := 25, attributes := #[] }, { accessFlags := 25, nameIndex := 286, descriptorIndex := 25, attributes := #[] }, { accessFlags := 25, nameIndex := 288, descriptorIndex := 25, attributes := #[] }, { accessFlags := 25, nameIndex := 290, descriptorIndex := 25, attributes := #[] }, { accessFlags := 25, nameIndex := 292, descriptorIndex := 25, attributes := #[] }, { accessFlags := 26, nameIndex := 108, descriptorIndex := 109, attributes := #[] }, { accessFlags := 25, nameIndex := 294, descriptorIndex := 25, attributes := #[] }])
  fields := #[{ name := "U", type := (.object "jdk/internal/misc/Unsafe"), accessFlags := 24, slot := 0, constantValue := 0 }, { name := "BIG_ENDIAN", type := .boolean, accessFlags := 26, slot := 1, constantValue := 0 }, { name := "LOG2_ARRAY_BOOLEAN_INDEX_SCALE", type := .int, accessFlags := 25, slot := 2, constantValue := 0 }, { name := "LOG2_ARRAY_BYTE_INDEX_SCALE", type := .int, accessFlags := 25, slot := 3, constantValue := 0 }, { name := "LOG2_ARRAY_CHAR_INDEX_SCALE", type := .int, accessFlags := 25, slot := 4, constantValue := 0 }, { name := "LOG2_ARRAY_SHORT_INDEX_SCALE", type := .int, accessFlags := 25, slot := 5, constantValue := 0 }, { name := "LOG2_ARRAY_INT_INDEX_SCALE", type := .int, accessFlags := 25, slot := 6, constantValue := 0 }, { name := "LOG2_ARRAY_LONG_INDEX_SCALE", type := .int, accessFlags := 25, slot := 7, constantValue := 0 }, { name := "LOG2_ARRAY_FLOAT_INDEX_SCALE", type := .int, accessFlags := 25, slot := 8, constantValue := 0 }, { name := "LOG2_ARRAY_DOUBLE_INDEX_SCALE", type := .int, accessFlags := 25, slot := 9, constantValue := 0 }, { name := "LOG2_BYTE_BIT_SIZE", type := .int, accessFlags := 26, slot := 10, constantValue := 0 }, { name := "T_BOOLEAN", type := .int, accessFlags := 25, slot := 11, constantValue := 0 }, { name := "T_CHAR", type := .int, accessFlags := 25, slot := 12, constantValue := 0 }, { name := "T_FLOAT", type := .int, accessFlags := 25, slot := 13, constantValue := 0 }, { name := "T_DOUBLE", type := .int, accessFlags := 25, slot := 14, constantValue := 0 }, { name := "T_BYTE", type := .int, accessFlags := 25, slot := 15, constantValue := 0 }, { name := "T_SHORT", type := .int, accessFlags := 25, slot := 16, constantValue := 0 }, { name := "T_INT", type := .int, accessFlags := 25, slot := 17, constantValue := 0 }, { name := "T_LONG", type := .int, accessFlags := 25, slot := 18, constantValue := 0 }, { name := "JLA", type := (.object "jdk/internal/access/JavaLangAccess"), accessFlags := 26, slot := 19, constantValue := 0 }, { name := "SOFT_MAX_ARRAY_LENGTH", type := .int, accessFlags := 25, slot := 20, constantValue := 0 }]
  methods := #[k13m0]
  instanceTypes := #[]
  staticTypes := #[(.object "jdk/internal/misc/Unsafe"), .boolean, .int, .int, .int, .int, .int, .int, .int, .int, .int, .int, .int, .int, .int, .int, .int, .int, .int, (.object "jdk/internal/access/JavaLangAccess"), .int]
  resolved := Array.replicate 378 none
  statics := none }

def pool14 : Array CpInfo := pool [(1, u "java/lang/Cloneable"), (0, .class_ 1), (0, u "java/lang/Object"), (0, .class_ 3)] 3

/-- java/lang/Cloneable -/
def k14 : Class := { plain "java/lang/Cloneable" (some 0) with
  accessFlags := 1537
  interfaces := #[]
  cf := some (fileOf pool14 2 #[] #[] 1537 4 #[] #[])
  fields := #[]
  methods := #[]
  instanceTypes := #[]
  staticTypes := #[]
  resolved := Array.replicate 8 none
  statics := none }

/-- the primitive byte -/
def k15 : Class := { plain "byte" none with kind := .primitive 'B', accessFlags := 0x411 }
/-- [B -/
def k16 : Class := { plain "[B" (some 0) with kind := .array 15 .byte, interfaces := #[14, 2], accessFlags := 1041 }

/-- the primitive char -/
def k17 : Class := { plain "char" none with kind := .primitive 'C', accessFlags := 0x411 }
/-- [C -/
def k18 : Class := { plain "[C" (some 0) with kind := .array 17 .char, interfaces := #[14, 2], accessFlags := 1041 }

/-- the primitive int -/
def k19 : Class := { plain "int" none with kind := .primitive 'I', accessFlags := 0x411 }
/-- [I -/
def k20 : Class := { plain "[I" (some 0) with kind := .array 19 .int, interfaces := #[14, 2], accessFlags := 1041 }

def heap : Heap := #[{ cls := 7, slots := #[.long 0, .int 1, .null, .int 0, .null, .int 0, .int 0], vm := .statics 7 },
  { cls := 9, slots := #[.null, .null, .null], vm := .statics 9 },
  { cls := 12, slots := #[.int 0, .int 8, .int 0, .int 1], vm := .statics 12 }]
def classes : Array Class := #[k0, k1, k2, k3, k4, k5, k6, k7, k8, k9, k10, k11, k12, k13, k14, k15, k16, k17, k18, k19, k20]
def interned : List (Array UInt16 × Addr) := []
def slotsUsed : Nat := 14
def theMethod : MethodId := ⟨1, 1⟩
def args0 : Array Value := #[.int 5, .int 0, .int 1, .int 2, .int 3, .int 4]
def aboutOver (below : List Frame) : State where
  vm := { classes := classes, interned := interned.toArray }
  heap := heap
  slotsUsed := slotsUsed
  threads := #[{ frames := .invoking theMethod args0 :: below }]
def below0 : List Frame := [.native { method := ⟨0, 0⟩, args := #[] }]
def about1 : State := aboutOver below0
def p0 : Program := .bare "" "" ""
def e0 : Env := launch0.env 0 0 0
theorem w_frames : about1.frames = Frame.invoking theMethod args0 :: below0 := rfl
set_option maxRecDepth 65536 in
theorem w_args : argsFit about1.vm theMethod args0 = true := by decide +kernel
set_option maxRecDepth 65536 in
theorem w_heap : heapFits about1 = true := by decide +kernel
set_option maxRecDepth 65536 in
theorem w_runnable : about1.curStatus? = some .runnable := by decide +kernel
set_option maxRecDepth 65536 in
theorem w_alone : about1.alone = true := by decide +kernel
set_option maxRecDepth 65536 in
theorem w_named : about1.methodNamed? x = some theMethod := by decide +kernel
set_option maxRecDepth 65536 in
theorem w_hears : about1.hears theMethod below0 = true := by decide +kernel
set_option maxRecDepth 65536 in
theorem w_ripe : about1.ripe theMethod args0 below0 = true := by decide +kernel
theorem w_running : about1.status = .running := rfl
set_option maxRecDepth 65536 in
theorem w_room : about1.hasRoom e0.platform room_1 = true :=
  launch0.hasRoom_least _ room_1 (by decide +kernel) (by decide +kernel) (by decide +kernel) (by decide +kernel) (by decide +kernel) (by decide +kernel)
theorem allAtoms_all (ts : List Jvm.Cond) (a : Array Jvm.Value) (st : Jvm.State) : (allAtoms ts).before a st = ts.all (fun c => c.before a st) := by
  induction ts with
  | nil => rfl
  | cons c t ih =>
    show (Jvm.Cond.and c (allAtoms t)).before a st = _
    rw [Jvm.Cond.before_and, ih, List.all_cons]
def words1 : List Jvm.Cond := Jvm.Cond.code x code maxLocals ret :: tables_1
/-- a 'code' word, met by the world's own term for the bytes: nothing is compared byte by byte -/
theorem code_word {y : MethodName} {bytes : ByteArray} {mx : Nat} {rt : Option FieldType} {a : Array Value} {s : State} {m : MethodId} {meth : Method} {c : Code} (h1 : s.methodNamed? y = some m) (h2 : s.vm.method? m = some meth) (h3 : meth.code = some c) (h4 : c.code = bytes)
    (h5 : (c.maxLocals == mx && c.exceptionTable.isEmpty && decide (c.maxStack ≤ mostOperands) && decide (meth.sig.returnType = rt) && !meth.locks && decide (parseMethodDescriptor y.desc = some meth.sig)) = true) : (Jvm.Cond.code y bytes mx rt).before a s = true := by
  simp only [Bool.and_eq_true, beq_iff_eq, Bool.not_eq_true', decide_eq_true_eq] at h5
  obtain ⟨⟨⟨⟨⟨g1, g2⟩, g3⟩, g4⟩, g5⟩, g6⟩ := h5
  simp [Cond.before, Cond.holds, Cond.value, h1, h2, h3, h4, g1, g2, g3, g4, g5, g6]
def isCode : Jvm.Cond → Bool
  | .code _ _ _ _ => true
  | _ => false
theorem all_split {L : List Jvm.Cond} {P : Jvm.Cond → Bool} (h1 : L.all (fun c => isCode c || P c) = true) (h2 : ∀ c ∈ L.filter isCode, P c = true) : L.all P = true := by
  refine List.all_eq_true.mpr fun c hc => ?_
  have h := List.all_eq_true.mp h1 c hc
  rcases Bool.eq_false_or_eq_true (isCode c) with hi | hi
  · exact h2 c (List.mem_filter.mpr ⟨hc, hi⟩)
  · simpa [hi] using h
set_option maxRecDepth 65536 in
theorem w_c0 : (Jvm.Cond.code x code maxLocals ret).before args0 about1 = true := code_word (m := ⟨1, 1⟩) (meth := k1m1) (c := k1c1) (by decide +kernel) rfl rfl rfl (by decide +kernel)
set_option maxRecDepth 65536 in
theorem w_c1 : (Jvm.Cond.code ({ cls := "com/example/grantline/grantline/PercentEncodingHasBadEscapePinLaw", name := "pick", desc := "(I)C" } : Jvm.MethodName) method_3_code (3 : Nat) (Option.some Jvm.ClassFile.FieldType.char)).before args0 about1 = true := code_word (m := ⟨1, 2⟩) (meth := k1m2) (c := k1c2) (by decide +kernel) rfl rfl rfl (by decide +kernel)
set_option maxRecDepth 65536 in
theorem w_c2 : (Jvm.Cond.code ({ cls := "java/lang/String", name := "charAt", desc := "(I)C" } : Jvm.MethodName) jdk_42_method_56_code (2 : Nat) (Option.some Jvm.ClassFile.FieldType.char)).before args0 about1 = true := code_word (m := ⟨7, 3⟩) (meth := k7m3) (c := k7c3) (by decide +kernel) rfl rfl rfl (by decide +kernel)
set_option maxRecDepth 65536 in
theorem w_c3 : (Jvm.Cond.code ({ cls := "java/lang/String", name := "isLatin1", desc := "()Z" } : Jvm.MethodName) jdk_42_method_154_code (1 : Nat) (Option.some Jvm.ClassFile.FieldType.boolean)).before args0 about1 = true := code_word (m := ⟨7, 8⟩) (meth := k7m8) (c := k7c8) (by decide +kernel) rfl rfl rfl (by decide +kernel)
set_option maxRecDepth 65536 in
theorem w_c4 : (Jvm.Cond.code ({ cls := "java/lang/StringLatin1", name := "charAt", desc := "([BI)C" } : Jvm.MethodName) jdk_43_method_2_code (2 : Nat) (Option.some Jvm.ClassFile.FieldType.char)).before args0 about1 = true := code_word (m := ⟨8, 1⟩) (meth := k8m1) (c := k8c1) (by decide +kernel) rfl rfl rfl (by decide +kernel)
set_option maxRecDepth 65536 in
theorem w_c5 : (Jvm.Cond.code ({ cls := "java/lang/String", name := "checkIndex", desc := "(II)V" } : Jvm.MethodName) jdk_42_method_155_code (2 : Nat) (Option.none : Option Jvm.ClassFile.FieldType)).before args0 about1 = true := code_word (m := ⟨7, 9⟩) (meth := k7m9) (c := k7c9) (by decide +kernel) rfl rfl rfl (by decide +kernel)
set_option maxRecDepth 65536 in
theorem w_c6 : (Jvm.Cond.code ({ cls := "jdk/internal/util/Preconditions", name := "checkIndex", desc := "(IILjava/util/function/BiFunction;)I" } : Jvm.MethodName) jdk_41_method_11_code (3 : Nat) (Option.some Jvm.ClassFile.FieldType.int)).before args0 about1 = true := code_word (m := ⟨9, 1⟩) (meth := k9m1) (c := k9c1) (by decide +kernel) rfl rfl rfl (by decide +kernel)
set_option maxRecDepth 65536 in
theorem w_c7 : (Jvm.Cond.code ({ cls := "java/lang/String", name := "<init>", desc := "([C)V" } : Jvm.MethodName) jdk_42_method_3_code (2 : Nat) (Option.none : Option Jvm.ClassFile.FieldType)).before args0 about1 = true := code_word (m := ⟨7, 1⟩) (meth := k7m1) (c := k7c1) (by decide +kernel) rfl rfl rfl (by decide +kernel)
set_option maxRecDepth 65536 in
theorem w_c8 : (Jvm.Cond.code ({ cls := "java/lang/String", name := "<init>", desc := "([CIILjava/lang/Void;)V" } : Jvm.MethodName) jdk_42_method_149_code (6 : Nat) (Option.none : Option Jvm.ClassFile.FieldType)).before args0 about1 = true := code_word (m := ⟨7, 6⟩) (meth := k7m6) (c := k7c6) (by decide +kernel) rfl rfl rfl (by decide +kernel)
set_option maxRecDepth 65536 in
theorem w_c9 : (Jvm.Cond.code ({ cls := "java/lang/Object", name := "<init>", desc := "()V" } : Jvm.MethodName) object_method_1_code (1 : Nat) (Option.none : Option Jvm.ClassFile.FieldType)).before args0 about1 = true := code_word (m := ⟨0, 0⟩) (meth := k0m0) (c := k0c0) (by decide +kernel) rfl rfl rfl (by decide +kernel)
set_option maxRecDepth 65536 in
theorem w_c10 : (Jvm.Cond.code ({ cls := "com/example/grantline/grantline/PercentEncodingHasBadEscapePinLaw", name := "badAt", desc := "([CII)Z" } : Jvm.MethodName) method_5_code (3 : Nat) (Option.some Jvm.ClassFile.FieldType.boolean)).before args0 about1 = true := code_word (m := ⟨1, 4⟩) (meth := k1m4) (c := k1c4) (by decide +kernel) rfl rfl rfl (by decide +kernel)
set_option maxRecDepth 65536 in
theorem w_c11 : (Jvm.Cond.code ({ cls := "com/example/grantline/grantline/PercentEncoding", name := "hasBadEscape", desc := "(Ljava/lang/String;)Z" } : Jvm.MethodName) prog_19_method_6_code (2 : Nat) (Option.some Jvm.ClassFile.FieldType.boolean)).before args0 about1 = true := code_word (m := ⟨10, 1⟩) (meth := k10m1) (c := k10c1) (by decide +kernel) rfl rfl rfl (by decide +kernel)
set_option maxRecDepth 65536 in
theorem w_c12 : (Jvm.Cond.code ({ cls := "java/lang/String", name := "indexOf", desc := "(I)I" } : Jvm.MethodName) jdk_42_method_79_code (2 : Nat) (Option.some Jvm.ClassFile.FieldType.int)).before args0 about1 = true := code_word (m := ⟨7, 4⟩) (meth := k7m4) (c := k7c4) (by decide +kernel) rfl rfl rfl (by decide +kernel)
set_option maxRecDepth 65536 in
theorem w_c13 : (Jvm.Cond.code ({ cls := "java/lang/String", name := "indexOf", desc := "(II)I" } : Jvm.MethodName) jdk_42_method_80_code (3 : Nat) (Option.some Jvm.ClassFile.FieldType.int)).before args0 about1 = true := code_word (m := ⟨7, 5⟩) (meth := k7m5) (c := k7c5) (by decide +kernel) rfl rfl rfl (by decide +kernel)
set_option maxRecDepth 65536 in
theorem w_c14 : (Jvm.Cond.code ({ cls := "java/lang/String", name := "length", desc := "()I" } : Jvm.MethodName) jdk_42_method_54_code (1 : Nat) (Option.some Jvm.ClassFile.FieldType.int)).before args0 about1 = true := code_word (m := ⟨7, 2⟩) (meth := k7m2) (c := k7c2) (by decide +kernel) rfl rfl rfl (by decide +kernel)
set_option maxRecDepth 65536 in
theorem w_c15 : (Jvm.Cond.code ({ cls := "java/lang/String", name := "coder", desc := "()B" } : Jvm.MethodName) jdk_42_method_152_code (1 : Nat) (Option.some Jvm.ClassFile.FieldType.byte)).before args0 about1 = true := code_word (m := ⟨7, 7⟩) (meth := k7m7) (c := k7c7) (by decide +kernel) rfl rfl rfl (by decide +kernel)
set_option maxRecDepth 65536 in
theorem w_c16 : (Jvm.Cond.code ({ cls := "java/lang/StringLatin1", name := "indexOf", desc := "([BIII)I" } : Jvm.MethodName) jdk_43_method_22_code (4 : Nat) (Option.some Jvm.ClassFile.FieldType.int)).before args0 about1 = true := code_word (m := ⟨8, 3⟩) (meth := k8m3) (c := k8c3) (by decide +kernel) rfl rfl rfl (by decide +kernel)
set_option maxRecDepth 65536 in
theorem w_c17 : (Jvm.Cond.code ({ cls := "java/lang/StringLatin1", name := "canEncode", desc := "(I)Z" } : Jvm.MethodName) jdk_43_method_4_code (1 : Nat) (Option.some Jvm.ClassFile.FieldType.boolean)).before args0 about1 = true := code_word (m := ⟨8, 2⟩) (meth := k8m2) (c := k8c2) (by decide +kernel) rfl rfl rfl (by decide +kernel)
set_option maxRecDepth 65536 in
theorem w_c18 : (Jvm.Cond.code ({ cls := "java/lang/Math", name := "max", desc := "(II)I" } : Jvm.MethodName) jdk_29_method_65_code (2 : Nat) (Option.some Jvm.ClassFile.FieldType.int)).before args0 about1 = true := code_word (m := ⟨11, 1⟩) (meth := k11m1) (c := k11c1) (by decide +kernel) rfl rfl rfl (by decide +kernel)
set_option maxRecDepth 65536 in
theorem w_c19 : (Jvm.Cond.code ({ cls := "java/lang/Math", name := "min", desc := "(II)I" } : Jvm.MethodName) jdk_29_method_69_code (2 : Nat) (Option.some Jvm.ClassFile.FieldType.int)).before args0 about1 = true := code_word (m := ⟨11, 2⟩) (meth := k11m2) (c := k11c2) (by decide +kernel) rfl rfl rfl (by decide +kernel)
set_option maxRecDepth 65536 in
theorem w_c20 : (Jvm.Cond.code ({ cls := "java/lang/StringUTF16", name := "compress", desc := "([CII)[B" } : Jvm.MethodName) jdk_52_method_16_code (6 : Nat) (Option.some (Jvm.ClassFile.FieldType.array Jvm.ClassFile.FieldType.byte))).before args0 about1 = true := code_word (m := ⟨12, 8⟩) (meth := k12m8) (c := k12c8) (by decide +kernel) rfl rfl rfl (by decide +kernel)
set_option maxRecDepth 65536 in
theorem w_c21 : (Jvm.Cond.code ({ cls := "java/lang/StringUTF16", name := "compress", desc := "([CI[BII)I" } : Jvm.MethodName) jdk_52_method_21_code (7 : Nat) (Option.some Jvm.ClassFile.FieldType.int)).before args0 about1 = true := code_word (m := ⟨12, 9⟩) (meth := k12m9) (c := k12c9) (by decide +kernel) rfl rfl rfl (by decide +kernel)
set_option maxRecDepth 65536 in
theorem w_c22 : (Jvm.Cond.code ({ cls := "java/lang/StringUTF16", name := "coderFromArrayLen", desc := "([BI)B" } : Jvm.MethodName) jdk_52_method_15_code (2 : Nat) (Option.some Jvm.ClassFile.FieldType.byte)).before args0 about1 = true := code_word (m := ⟨12, 7⟩) (meth := k12m7) (c := k12c7) (by decide +kernel) rfl rfl rfl (by decide +kernel)
set_option maxRecDepth 65536 in
theorem w_c23 : (Jvm.Cond.code ({ cls := "java/lang/StringLatin1", name := "indexOfChar", desc := "([BIII)I" } : Jvm.MethodName) jdk_43_method_23_code (6 : Nat) (Option.some Jvm.ClassFile.FieldType.int)).before args0 about1 = true := code_word (m := ⟨8, 4⟩) (meth := k8m4) (c := k8c4) (by decide +kernel) rfl rfl rfl (by decide +kernel)
set_option maxRecDepth 65536 in
theorem w_c24 : (Jvm.Cond.code ({ cls := "com/example/grantline/grantline/PercentEncoding", name := "encodedByte", desc := "(Ljava/lang/String;I)I" } : Jvm.MethodName) prog_19_method_7_code (4 : Nat) (Option.some Jvm.ClassFile.FieldType.int)).before args0 about1 = true := code_word (m := ⟨10, 2⟩) (meth := k10m2) (c := k10c2) (by decide +kernel) rfl rfl rfl (by decide +kernel)
set_option maxRecDepth 65536 in
theorem w_c25 : (Jvm.Cond.code ({ cls := "com/example/grantline/grantline/PercentEncoding", name := "hexDigit", desc := "(Ljava/lang/String;I)I" } : Jvm.MethodName) prog_19_method_8_code (4 : Nat) (Option.some Jvm.ClassFile.FieldType.int)).before args0 about1 = true := code_word (m := ⟨10, 3⟩) (meth := k10m3) (c := k10c3) (by decide +kernel) rfl rfl rfl (by decide +kernel)
set_option maxRecDepth 65536 in
theorem w_c26 : (Jvm.Cond.code ({ cls := "java/lang/StringUTF16", name := "toBytes", desc := "([CII)[B" } : Jvm.MethodName) jdk_52_method_14_code (5 : Nat) (Option.some (Jvm.ClassFile.FieldType.array Jvm.ClassFile.FieldType.byte))).before args0 about1 = true := code_word (m := ⟨12, 6⟩) (meth := k12m6) (c := k12c6) (by decide +kernel) rfl rfl rfl (by decide +kernel)
set_option maxRecDepth 65536 in
theorem w_c27 : (Jvm.Cond.code ({ cls := "java/lang/StringUTF16", name := "newBytesFor", desc := "(I)[B" } : Jvm.MethodName) jdk_52_method_2_code (1 : Nat) (Option.some (Jvm.ClassFile.FieldType.array Jvm.ClassFile.FieldType.byte))).before args0 about1 = true := code_word (m := ⟨12, 1⟩) (meth := k12m1) (c := k12c1) (by decide +kernel) rfl rfl rfl (by decide +kernel)
set_option maxRecDepth 65536 in
theorem w_c28 : (Jvm.Cond.code ({ cls := "java/lang/StringUTF16", name := "newBytesLength", desc := "(I)I" } : Jvm.MethodName) jdk_52_method_3_code (1 : Nat) (Option.some Jvm.ClassFile.FieldType.int)).before args0 about1 = true := code_word (m := ⟨12, 2⟩) (meth := k12m2) (c := k12c2) (by decide +kernel) rfl rfl rfl (by decide +kernel)
set_option maxRecDepth 65536 in
theorem w_c29 : (Jvm.Cond.code ({ cls := "java/lang/StringUTF16", name := "putChar", desc := "([BII)V" } : Jvm.MethodName) jdk_52_method_4_code (3 : Nat) (Option.none : Option Jvm.ClassFile.FieldType)).before args0 about1 = true := code_word (m := ⟨12, 3⟩) (meth := k12m3) (c := k12c3) (by decide +kernel) rfl rfl rfl (by decide +kernel)
set_option maxRecDepth 65536 in
theorem w_c30 : (Jvm.Cond.code ({ cls := "java/lang/StringUTF16", name := "getChar", desc := "([BI)C" } : Jvm.MethodName) jdk_52_method_5_code (2 : Nat) (Option.some Jvm.ClassFile.FieldType.char)).before args0 about1 = true := code_word (m := ⟨12, 4⟩) (meth := k12m4) (c := k12c4) (by decide +kernel) rfl rfl rfl (by decide +kernel)
set_option maxRecDepth 65536 in
theorem w_c31 : (Jvm.Cond.code ({ cls := "java/lang/StringUTF16", name := "indexOf", desc := "([BIII)I" } : Jvm.MethodName) jdk_52_method_40_code (4 : Nat) (Option.some Jvm.ClassFile.FieldType.int)).before args0 about1 = true := code_word (m := ⟨12, 10⟩) (meth := k12m10) (c := k12c10) (by decide +kernel) rfl rfl rfl (by decide +kernel)
set_option maxRecDepth 65536 in
theorem w_c32 : (Jvm.Cond.code ({ cls := "java/lang/StringUTF16", name := "indexOfChar", desc := "([BIII)I" } : Jvm.MethodName) jdk_52_method_47_code (4 : Nat) (Option.some Jvm.ClassFile.FieldType.int)).before args0 about1 = true := code_word (m := ⟨12, 11⟩) (meth := k12m11) (c := k12c11) (by decide +kernel) rfl rfl rfl (by decide +kernel)
set_option maxRecDepth 65536 in
theorem w_c33 : (Jvm.Cond.code ({ cls := "java/lang/StringUTF16", name := "checkBoundsBeginEnd", desc := "(II[B)V" } : Jvm.MethodName) jdk_52_method_93_code (3 : Nat) (Option.none : Option Jvm.ClassFile.FieldType)).before args0 about1 = true := code_word (m := ⟨12, 15⟩) (meth := k12m15) (c := k12c15) (by decide +kernel) rfl rfl rfl (by decide +kernel)
set_option maxRecDepth 65536 in
theorem w_c34 : (Jvm.Cond.code ({ cls := "java/lang/StringUTF16", name := "length", desc := "([B)I" } : Jvm.MethodName) jdk_52_method_6_code (1 : Nat) (Option.some Jvm.ClassFile.FieldType.int)).before args0 about1 = true := code_word (m := ⟨12, 5⟩) (meth := k12m5) (c := k12c5) (by decide +kernel) rfl rfl rfl (by decide +kernel)
set_option maxRecDepth 65536 in
theorem w_c35 : (Jvm.Cond.code ({ cls := "java/lang/String", name := "checkBoundsBeginEnd", desc := "(III)V" } : Jvm.MethodName) jdk_42_method_158_code (3 : Nat) (Option.none : Option Jvm.ClassFile.FieldType)).before args0 about1 = true := code_word (m := ⟨7, 10⟩) (meth := k7m10) (c := k7c10) (by decide +kernel) rfl rfl rfl (by decide +kernel)
set_option maxRecDepth 65536 in
theorem w_c36 : (Jvm.Cond.code ({ cls := "jdk/internal/util/Preconditions", name := "checkFromToIndex", desc := "(IIILjava/util/function/BiFunction;)I" } : Jvm.MethodName) jdk_41_method_12_code (4 : Nat) (Option.some Jvm.ClassFile.FieldType.int)).before args0 about1 = true := code_word (m := ⟨9, 2⟩) (meth := k9m2) (c := k9c2) (by decide +kernel) rfl rfl rfl (by decide +kernel)
set_option maxRecDepth 65536 in
theorem w_c37 : (Jvm.Cond.code ({ cls := "java/lang/StringUTF16", name := "indexOfCharUnsafe", desc := "([BIII)I" } : Jvm.MethodName) jdk_52_method_48_code (5 : Nat) (Option.some Jvm.ClassFile.FieldType.int)).before args0 about1 = true := code_word (m := ⟨12, 12⟩) (meth := k12m12) (c := k12c12) (by decide +kernel) rfl rfl rfl (by decide +kernel)
set_option maxRecDepth 65536 in
theorem w_c38 : (Jvm.Cond.code ({ cls := "java/lang/StringUTF16", name := "charAt", desc := "([BI)C" } : Jvm.MethodName) jdk_52_method_83_code (2 : Nat) (Option.some Jvm.ClassFile.FieldType.char)).before args0 about1 = true := code_word (m := ⟨12, 13⟩) (meth := k12m13) (c := k12c13) (by decide +kernel) rfl rfl rfl (by decide +kernel)
set_option maxRecDepth 65536 in
theorem w_c39 : (Jvm.Cond.code ({ cls := "java/lang/StringUTF16", name := "checkIndex", desc := "(I[B)V" } : Jvm.MethodName) jdk_52_method_91_code (2 : Nat) (Option.none : Option Jvm.ClassFile.FieldType)).before args0 about1 = true := code_word (m := ⟨12, 14⟩) (meth := k12m14) (c := k12c14) (by decide +kernel) rfl rfl rfl (by decide +kernel)
set_option maxRecDepth 65536 in
theorem w_c40 : (Jvm.Cond.code ({ cls := "com/example/grantline/grantline/PercentEncodingHasBadEscapePinLaw", name := "isHex", desc := "(C)Z" } : Jvm.MethodName) method_4_code (1 : Nat) (Option.some Jvm.ClassFile.FieldType.boolean)).before args0 about1 = true := code_word (m := ⟨1, 3⟩) (meth := k1m3) (c := k1c3) (by decide +kernel) rfl rfl rfl (by decide +kernel)
def codes1 : List Jvm.Cond := [Jvm.Cond.code x code maxLocals ret, Jvm.Cond.code ({ cls := "com/example/grantline/grantline/PercentEncodingHasBadEscapePinLaw", name := "pick", desc := "(I)C" } : Jvm.MethodName) method_3_code (3 : Nat) (Option.some Jvm.ClassFile.FieldType.char), Jvm.Cond.code ({ cls := "java/lang/String", name := "charAt", desc := "(I)C" } : Jvm.MethodName) jdk_42_method_56_code (2 : Nat) (Option.some Jvm.ClassFile.FieldType.char), Jvm.Cond.code ({ cls := "java/lang/String", name := "isLatin1", desc := "()Z" } : Jvm.MethodName) jdk_42_method_154_code (1 : Nat) (Option.some Jvm.ClassFile.FieldType.boolean), Jvm.Cond.code ({ cls := "java/lang/StringLatin1", name := "charAt", desc := "([BI)C" } : Jvm.MethodName) jdk_43_method_2_code (2 : Nat) (Option.some Jvm.ClassFile.FieldType.char), Jvm.Cond.code ({ cls := "java/lang/String", name := "checkIndex", desc := "(II)V" } : Jvm.MethodName) jdk_42_method_155_code (2 : Nat) (Option.none : Option Jvm.ClassFile.FieldType), Jvm.Cond.code ({ cls := "jdk/internal/util/Preconditions", name := "checkIndex", desc := "(IILjava/util/function/BiFunction;)I" } : Jvm.MethodName) jdk_41_method_11_code (3 : Nat) (Option.some Jvm.ClassFile.FieldType.int), Jvm.Cond.code ({ cls := "java/lang/String", name := "<init>", desc := "([C)V" } : Jvm.MethodName) jdk_42_method_3_code (2 : Nat) (Option.none : Option Jvm.ClassFile.FieldType), Jvm.Cond.code ({ cls := "java/lang/String", name := "<init>", desc := "([CIILjava/lang/Void;)V" } : Jvm.MethodName) jdk_42_method_149_code (6 : Nat) (Option.none : Option Jvm.ClassFile.FieldType), Jvm.Cond.code ({ cls := "java/lang/Object", name := "<init>", desc := "()V" } : Jvm.MethodName) object_method_1_code (1 : Nat) (Option.none : Option Jvm.ClassFile.FieldType), Jvm.Cond.code ({ cls := "com/example/grantline/grantline/PercentEncodingHasBadEscapePinLaw", name := "badAt", desc := "([CII)Z" } : Jvm.MethodName) method_5_code (3 : Nat) (Option.some Jvm.ClassFile.FieldType.boolean), Jvm.Cond.code ({ cls := "com/example/grantline/grantline/PercentEncoding", name := "hasBadEscape", desc := "(Ljava/lang/String;)Z" } : Jvm.MethodName) prog_19_method_6_code (2 : Nat) (Option.some Jvm.ClassFile.FieldType.boolean), Jvm.Cond.code ({ cls := "java/lang/String", name := "indexOf", desc := "(I)I" } : Jvm.MethodName) jdk_42_method_79_code (2 : Nat) (Option.some Jvm.ClassFile.FieldType.int), Jvm.Cond.code ({ cls := "java/lang/String", name := "indexOf", desc := "(II)I" } : Jvm.MethodName) jdk_42_method_80_code (3 : Nat) (Option.some Jvm.ClassFile.FieldType.int), Jvm.Cond.code ({ cls := "java/lang/String", name := "length", desc := "()I" } : Jvm.MethodName) jdk_42_method_54_code (1 : Nat) (Option.some Jvm.ClassFile.FieldType.int), Jvm.Cond.code ({ cls := "java/lang/String", name := "coder", desc := "()B" } : Jvm.MethodName) jdk_42_method_152_code (1 : Nat) (Option.some Jvm.ClassFile.FieldType.byte), Jvm.Cond.code ({ cls := "java/lang/StringLatin1", name := "indexOf", desc := "([BIII)I" } : Jvm.MethodName) jdk_43_method_22_code (4 : Nat) (Option.some Jvm.ClassFile.FieldType.int), Jvm.Cond.code ({ cls := "java/lang/StringLatin1", name := "canEncode", desc := "(I)Z" } : Jvm.MethodName) jdk_43_method_4_code (1 : Nat) (Option.some Jvm.ClassFile.FieldType.boolean), Jvm.Cond.code ({ cls := "java/lang/Math", name := "max", desc := "(II)I" } : Jvm.MethodName) jdk_29_method_65_code (2 : Nat) (Option.some Jvm.ClassFile.FieldType.int), Jvm.Cond.code ({ cls := "java/lang/Math", name := "min", desc := "(II)I" } : Jvm.MethodName) jdk_29_method_69_code (2 : Nat) (Option.some Jvm.ClassFile.FieldType.int), Jvm.Cond.code ({ cls := "java/lang/StringUTF16", name := "compress", desc := "([CII)[B" } : Jvm.MethodName) jdk_52_method_16_code (6 : Nat) (Option.some (Jvm.ClassFile.FieldType.array Jvm.ClassFile.FieldType.byte)), Jvm.Cond.code ({ cls := "java/lang/StringUTF16", name := "compress", desc := "([CI[BII)I" } : Jvm.MethodName) jdk_52_method_21_code (7 : Nat) (Option.some Jvm.ClassFile.FieldType.int), Jvm.Cond.code ({ cls := "java/lang/StringUTF16", name := "coderFromArrayLen", desc := "([BI)B" } : Jvm.MethodName) jdk_52_method_15_code (2 : Nat) (Option.some Jvm.ClassFile.FieldType.byte), Jvm.Cond.code ({ cls := "java/lang/StringLatin1", name := "indexOfChar", desc := "([BIII)I" } : Jvm.MethodName) jdk_43_method_23_code (6 : Nat) (Option.some Jvm.ClassFile.FieldType.int), Jvm.Cond.code ({ cls := "com/example/grantline/grantline/PercentEncoding", name := "encodedByte", desc := "(Ljava/lang/String;I)I" } : Jvm.MethodName) prog_19_method_7_code (4 : Nat) (Option.some Jvm.ClassFile.FieldType.int), Jvm.Cond.code ({ cls := "com/example/grantline/grantline/PercentEncoding", name := "hexDigit", desc := "(Ljava/lang/String;I)I" } : Jvm.MethodName) prog_19_method_8_code (4 : Nat) (Option.some Jvm.ClassFile.FieldType.int), Jvm.Cond.code ({ cls := "java/lang/StringUTF16", name := "toBytes", desc := "([CII)[B" } : Jvm.MethodName) jdk_52_method_14_code (5 : Nat) (Option.some (Jvm.ClassFile.FieldType.array Jvm.ClassFile.FieldType.byte)), Jvm.Cond.code ({ cls := "java/lang/StringUTF16", name := "newBytesFor", desc := "(I)[B" } : Jvm.MethodName) jdk_52_method_2_code (1 : Nat) (Option.some (Jvm.ClassFile.FieldType.array Jvm.ClassFile.FieldType.byte)), Jvm.Cond.code ({ cls := "java/lang/StringUTF16", name := "newBytesLength", desc := "(I)I" } : Jvm.MethodName) jdk_52_method_3_code (1 : Nat) (Option.some Jvm.ClassFile.FieldType.int), Jvm.Cond.code ({ cls := "java/lang/StringUTF16", name := "putChar", desc := "([BII)V" } : Jvm.MethodName) jdk_52_method_4_code (3 : Nat) (Option.none : Option Jvm.ClassFile.FieldType), Jvm.Cond.code ({ cls := "java/lang/StringUTF16", name := "getChar", desc := "([BI)C" } : Jvm.MethodName) jdk_52_method_5_code (2 : Nat) (Option.some Jvm.ClassFile.FieldType.char), Jvm.Cond.code ({ cls := "java/lang/StringUTF16", name := "indexOf", desc := "([BIII)I" } : Jvm.MethodName) jdk_52_method_40_code (4 : Nat) (Option.some Jvm.ClassFile.FieldType.int), Jvm.Cond.code ({ cls := "java/lang/StringUTF16", name := "indexOfChar", desc := "([BIII)I" } : Jvm.MethodName) jdk_52_method_47_code (4 : Nat) (Option.some Jvm.ClassFile.FieldType.int), Jvm.Cond.code ({ cls := "java/lang/StringUTF16", name := "checkBoundsBeginEnd", desc := "(II[B)V" } : Jvm.MethodName) jdk_52_method_93_code (3 : Nat) (Option.none : Option Jvm.ClassFile.FieldType), Jvm.Cond.code ({ cls := "java/lang/StringUTF16", name := "length", desc := "([B)I" } : Jvm.MethodName) jdk_52_method_6_code (1 : Nat) (Option.some Jvm.ClassFile.FieldType.int), Jvm.Cond.code ({ cls := "java/lang/String", name := "checkBoundsBeginEnd", desc := "(III)V" } : Jvm.MethodName) jdk_42_method_158_code (3 : Nat) (Option.none : Option Jvm.ClassFile.FieldType), Jvm.Cond.code ({ cls := "jdk/internal/util/Preconditions", name := "checkFromToIndex", desc := "(IIILjava/util/function/BiFunction;)I" } : Jvm.MethodName) jdk_41_method_12_code (4 : Nat) (Option.some Jvm.ClassFile.FieldType.int), Jvm.Cond.code ({ cls := "java/lang/StringUTF16", name := "indexOfCharUnsafe", desc := "([BIII)I" } : Jvm.MethodName) jdk_52_method_48_code (5 : Nat) (Option.some Jvm.ClassFile.FieldType.int), Jvm.Cond.code ({ cls := "java/lang/StringUTF16", name := "charAt", desc := "([BI)C" } : Jvm.MethodName) jdk_52_method_83_code (2 : Nat) (Option.some Jvm.ClassFile.FieldType.char), Jvm.Cond.code ({ cls := "java/lang/StringUTF16", name := "checkIndex", desc := "(I[B)V" } : Jvm.MethodName) jdk_52_method_91_code (2 : Nat) (Option.none : Option Jvm.ClassFile.FieldType), Jvm.Cond.code ({ cls := "com/example/grantline/grantline/PercentEncodingHasBadEscapePinLaw", name := "isHex", desc := "(C)Z" } : Jvm.MethodName) method_4_code (1 : Nat) (Option.some Jvm.ClassFile.FieldType.boolean)]
set_option maxRecDepth 65536 in
theorem codes_eq : words1.filter isCode = codes1 := rfl
theorem w_codes : ∀ c ∈ words1.filter isCode, c.before args0 about1 = true := by
  rw [codes_eq]
  intro c hc
  simp only [codes1, List.mem_cons, List.not_mem_nil, or_false] at hc
  rcases hc with rfl | rfl | rfl | rfl | rfl | rfl | rfl | rfl | rfl | rfl | rfl | rfl | rfl | rfl | rfl | rfl | rfl | rfl | rfl | rfl | rfl | rfl | rfl | rfl | rfl | rfl | rfl | rfl | rfl | rfl | rfl | rfl | rfl | rfl | rfl | rfl | rfl | rfl | rfl | rfl | rfl
  · exact w_c0
  · exact w_c1
  · exact w_c2
  · exact w_c3
  · exact w_c4
  · exact w_c5
  · exact w_c6
  · exact w_c7
  · exact w_c8
  · exact w_c9
  · exact w_c10
  · exact w_c11
  · exact w_c12
  · exact w_c13
  · exact w_c14
  · exact w_c15
  · exact w_c16
  · exact w_c17
  · exact w_c18
  · exact w_c19
  · exact w_c20
  · exact w_c21
  · exact w_c22
  · exact w_c23
  · exact w_c24
  · exact w_c25
  · exact w_c26
  · exact w_c27
  · exact w_c28
  · exact w_c29
  · exact w_c30
  · exact w_c31
  · exact w_c32
  · exact w_c33
  · exact w_c34
  · exact w_c35
  · exact w_c36
  · exact w_c37
  · exact w_c38
  · exact w_c39
  · exact w_c40
set_option maxRecDepth 65536 in
theorem w_t1 : (words1.take 24).all (fun c => isCode c || c.before args0 about1) = true := by decide +kernel
set_option maxRecDepth 65536 in
theorem w_t2 : ((words1.drop 24).take 24).all (fun c => isCode c || c.before args0 about1) = true := by decide +kernel
set_option maxRecDepth 65536 in
theorem w_t3 : (((words1.drop 24).drop 24).take 24).all (fun c => isCode c || c.before args0 about1) = true := by decide +kernel
set_option maxRecDepth 65536 in
theorem w_t4 : ((((words1.drop 24).drop 24).drop 24).take 24).all (fun c => isCode c || c.before args0 about1) = true := by decide +kernel
set_option maxRecDepth 65536 in
theorem w_t5 : (((((words1.drop 24).drop 24).drop 24).drop 24).take 24).all (fun c => isCode c || c.before args0 about1) = true := by decide +kernel
set_option maxRecDepth 65536 in
theorem w_t6 : ((((((words1.drop 24).drop 24).drop 24).drop 24).drop 24).take 24).all (fun c => isCode c || c.before args0 about1) = true := by decide +kernel
set_option maxRecDepth 65536 in
theorem w_t7 : ((((((words1.drop 24).drop 24).drop 24).drop 24).drop 24).drop 24).all (fun c => isCode c || c.before args0 about1) = true := by decide +kernel
theorem w_tables : (allAtoms (Jvm.Cond.code x code maxLocals ret :: tables_1)).before args0 about1 = true := by
  rw [allAtoms_all]
  show words1.all (fun c => c.before args0 about1) = true
  refine all_split ?_ w_codes
  rw [← List.take_append_drop 24 words1, List.all_append, w_t1, ← List.take_append_drop 24 (words1.drop 24), List.all_append, w_t2, ← List.take_append_drop 24 ((words1.drop 24).drop 24), List.all_append, w_t3, ← List.take_append_drop 24 (((words1.drop 24).drop 24).drop 24), List.all_append, w_t4, ← List.take_append_drop 24 ((((words1.drop 24).drop 24).drop 24).drop 24), List.all_append, w_t5, ← List.take_append_drop 24 (((((words1.drop 24).drop 24).drop 24).drop 24).drop 24), List.all_append, w_t6, w_t7]
  rfl
set_option maxRecDepth 65536 in
theorem w_rest : rest_1_c.before args0 about1 = true := by decide +kernel
set_option maxRecDepth 65536 in
theorem w_case : (Jvm.Cond.and given_1 narrow_1).before args0 about1 = true := by decide +kernel
set_option maxRecDepth 65536 in
theorem w_consts : constsHeld consts_1 about1 := Jvm.Lit.constsHeldB_iff.mp (by decide +kernel)
theorem w_applies : (headSpec (Jvm.Cond.code x code maxLocals ret :: tables_1) room_1).applies x e0.platform about1 = true :=
  (Spec.applies_iff w_frames).mpr ⟨w_running, w_runnable, w_alone, w_named, w_hears, w_ripe, w_room, w_tables⟩
theorem atStart : AtStart classFile x code maxLocals ret World_1 tables_1 room_1 Calls_1 rest_1 Pre_1 launch0 p0 e0 about1 theMethod args0 below0 :=
  ⟨lists_1, trivial, launch0.admits_env _ _ _, launch0.least_env, fairChoices_fair.cas, fairChoices_fair.clock, w_frames, w_args, w_heap, w_applies, ⟨w_consts, trivial⟩, w_rest, w_case⟩
end start1
theorem witness_1 : WitnessClaimed_1 := ⟨start1.p0, start1.e0, start1.about1, start1.theMethod, start1.args0, start1.below0, start1.atStart⟩
end Jvm.Pilot.@@N@@
