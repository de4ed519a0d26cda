import JvmDerived
import JvmDerived.Pilot.@@N@@Statement
import JvmDerived.Pilot.@@N@@Code
set_option linter.unusedVariables false
set_option linter.unusedSimpArgs false
/- laws to paste: Road.backV (cut by pick.py; bodies as the Statement names them) -/
namespace Jvm.Pilot.@@N@@
namespace StrChars
open Jvm Sem ClassFile Op Lib Jvm.Stand Jvm.Free.XT Jvm.Free.ALB Jvm.Free.JM Jvm.Free
open Jvm.Lib.Cold (StaticIs)
/-- a char array whose places are chars -/
def Ch (a : Addr) (A : Cell) (U : State) : Prop := Arr .char a A U ∧ Typed .char A
theorem Ch.mv {a : Addr} {A : Cell} {U U' : State} (h : Ch a A U) (hal : U.vm.Alike U'.vm) (hh : U'.heap = U.heap) : Ch a A U' := ⟨h.1.mv hal hh, h.2⟩
theorem Ch.keep {a : Addr} {A : Cell} {U U' : State} (h : Ch a A U) (hal : U.vm.Alike U'.vm) (hk : U'.heap[a]? = some A) : Ch a A U' := ⟨h.1.keep hal hk, h.2⟩
/-- what place i of a char[]'s cell holds -/
def cv (A : Cell) (i : Nat) : Int32 := match A.slots[i]? with | some (.int x) => x | _ => 0
theorem Ch.get {a : Addr} {A : Cell} {U : State} (h : Ch a A U) {i : Nat} (hi : i < A.slots.size) : A.slots[i]? = some (.int (cv A i)) := by
  have e := Array.getElem?_eq_getElem hi
  have f := h.2 i _ e
  unfold cv; rw [e]
  generalize A.slots[i] = v at f
  cases v <;> simp [fits] at f ⊢
/-- the byte that i2b leaves of a char -/
def lo8 (x : Int32) : Int32 := x.toInt8.toInt32
theorem fits_lo8 (y : Int32) : fits .byte (.int (lo8 y)) = true := by
  have h1 := y.toInt8.le_toInt
  have h2 := y.toInt8.toInt_lt
  simp only [lo8, fits, Bool.and_eq_true, decide_eq_true_eq, Int32.le_iff_toInt_le, Int8.toInt_toInt32, show (-128 : Int32).toInt = -128 from by decide, show (127 : Int32).toInt = 127 from by decide]
  omega
/-- A' is A but that each place j of lo .. hi - 1 holds f j -/
def Laid (A A' : Cell) (lo hi : Nat) (f : Nat → Value) : Prop := A'.cls = A.cls ∧ A'.vm = A.vm ∧ A'.slots.size = A.slots.size ∧ ∀ i, A'.slots[i]? = if lo ≤ i ∧ i < hi then some (f i) else A.slots[i]?
theorem Laid.zero (A : Cell) (lo : Nat) (f : Nat → Value) : Laid A A lo (lo + 0) f := ⟨rfl, rfl, rfl, fun i => by rw [if_neg (by omega)]⟩
theorem Laid.step {A Ak : Cell} {lo k : Nat} {f : Nat → Value} {v : Value} (h : Laid A Ak lo k f) (hlo : lo ≤ k) (hk : k < Ak.slots.size) (hv : v = f k) : Laid A (Ak.setSlot k v) lo (k + 1) f := by
  refine ⟨h.1, h.2.1, by simpa [Cell.setSlot] using h.2.2.1, fun i => ?_⟩
  by_cases e : k = i
  · subst e; rw [Cell.slots_setSlot_self v hk, if_pos (by omega), hv]
  · rw [Cell.slots_setSlot_ne v e, h.2.2.2 i]
    by_cases q : lo ≤ i ∧ i < k
    · rw [if_pos q, if_pos (by omega)]
    · rw [if_neg q, if_neg (by omega)]
def U16 : String := "java/lang/StringUTF16"
namespace Cmp5
def yN : MethodName := ⟨"java/lang/StringUTF16", "compress", "([CI[BII)I"⟩
abbrev yB : ByteArray := jdk_52_method_21_code
theorem d0 : decode yB 0 = .ok (.iconst 0, 1) := by decide +kernel
theorem d1 : decode yB 1 = .ok (.istore 5, 2) := by decide +kernel
theorem d3 : decode yB 3 = .ok (.iload 5, 2) := by decide +kernel
theorem d5 : decode yB 5 = .ok (.iload 4, 2) := by decide +kernel
theorem d7 : decode yB 7 = .ok (.if_icmp (.ge) 37, 3) := by decide +kernel
theorem d10 : decode yB 10 = .ok (.aload_n 0, 1) := by decide +kernel
theorem d11 : decode yB 11 = .ok (.iload_n 1, 1) := by decide +kernel
theorem d12 : decode yB 12 = .ok (.caload, 1) := by decide +kernel
theorem d13 : decode yB 13 = .ok (.istore 6, 2) := by decide +kernel
theorem d15 : decode yB 15 = .ok (.iload 6, 2) := by decide +kernel
theorem d17 : decode yB 17 = .ok (.sipush 255, 3) := by decide +kernel
theorem d20 : decode yB 20 = .ok (.if_icmp (.le) 6, 3) := by decide +kernel
theorem d26 : decode yB 26 = .ok (.aload_n 2, 1) := by decide +kernel
theorem d27 : decode yB 27 = .ok (.iload_n 3, 1) := by decide +kernel
theorem d28 : decode yB 28 = .ok (.iload 6, 2) := by decide +kernel
theorem d30 : decode yB 30 = .ok (.i2b, 1) := by decide +kernel
theorem d31 : decode yB 31 = .ok (.bastore, 1) := by decide +kernel
theorem d32 : decode yB 32 = .ok (.iinc 1 1, 3) := by decide +kernel
theorem d35 : decode yB 35 = .ok (.iinc 3 1, 3) := by decide +kernel
theorem d38 : decode yB 38 = .ok (.iinc 5 1, 3) := by decide +kernel
theorem d41 : decode yB 41 = .ok (.goto (-38), 3) := by decide +kernel
theorem d44 : decode yB 44 = .ok (.iload 4, 2) := by decide +kernel
theorem d46 : decode yB 46 = .ok (.ireturn, 1) := by decide +kernel
def site : List Cond := []
def tab : Cond := tabOf yN yB 7 (some .int) site
def P (b : Addr) (A : Cell) (d : Addr) (B : Cell) (o q len : Nat) (args : Array Value) (s : State) : Prop := args = #[.ref b, .int (Int32.ofNat o), .ref d, .int (Int32.ofNat q), .int (Int32.ofNat len)] ∧ Ch b A s ∧ Arr .byte d B s ∧ b ≠ d ∧ o + len ≤ A.slots.size ∧ q + len ≤ B.slots.size ∧ ∀ i, i < len → ¬ 255 < cv A (o + i)
def E (b : Addr) (A : Cell) (d : Addr) (B : Cell) (o q len : Nat) (r : Option Value) (s u : State) : Prop := r = some (.int (Int32.ofNat len)) ∧ ∃ B', Put d B' s u ∧ Laid B B' q (q + len) (fun j => Value.int (lo8 (cv A (o + (j - q)))))
/-- no char of the range above 255: len; the places written hold each char's low byte -/
theorem law (l : Launch) (b : Addr) (A : Cell) (d : Addr) (B : Cell) (o q len : Nat) : Law l yN 5 5 0 0 yB 7 (some .int) site (P b A d B o q len) (E b A d B o q len) (copyLocs d q len) 0 0 := by
  refine Law.of_walk (plainFor_of_name (by decide +kernel)) (by decide +kernel) (by decide +kernel) (by decide) (fun _ _ h => by rw [h.1]; rfl) (fun _ U U' hal hh h => ⟨h.1, h.2.1.mv hal hh, h.2.2.1.mv hal hh, h.2.2.2⟩) (fun r U U' V V' h1 hal h2 h => ⟨h.1, h.2.elim fun B' q => ⟨B', q.1.mv h1 h2, q.2⟩⟩) ?_
  intro p e s m args below meth c s₁ X0 hexec hbytes hml hret hlk hnm hown hh0 W hP
  obtain ⟨rfl, hA, hB, hne, l1, l2, hp⟩ := hP
  have c1 : Steps p.tables e below (s₁.setTop (entryFrame m #[.ref b, .int (Int32.ofNat o), .ref d, .int (Int32.ofNat q), .int (Int32.ofNat len)] 7)) (s₁.setTop (mkF m 0 #[.val (.ref b), .val (.int (Int32.ofNat o)), .val (.ref d), .val (.int (Int32.ofNat q)), .val (.int (Int32.ofNat len)), .unset, .unset] [])) := entry rfl
  have hA0 := hA.1.mv X0.warmed.alike hh0
  have hB0 := hB.mv X0.warmed.alike hh0
  have a31 := hA.1.2.2.2
  have c2 : Steps p.tables e below (s₁.setTop (entryFrame m #[.ref b, .int (Int32.ofNat o), .ref d, .int (Int32.ofNat q), .int (Int32.ofNat len)] 7)) (s₁.setTop (mkF m 3 #[.val (.ref b), .val (.int (Int32.ofNat o)), .val (.ref d), .val (.int (Int32.ofNat q)), .val (.int (Int32.ofNat len)), .val (.int 0), .unset] [])) := c1.trans (by
    refine iconstV X0.here hexec rfl 0 (hb hbytes d0) (by decide) ?_
    refine XS.istore X0.here hexec rfl (hb hbytes d1) rfl rfl ?_
    exact Steps.refl _)
  have loop : ∀ (r i : Nat), i + r = len → ∀ (z : Slot), (z = .unset ∨ ∃ w, z = .val w ∧ w.category = 1) → ∀ (Tl : State) (Bk : Cell), Stand p l e { frames := 0, locals := 0, cells := 0, slots := 0 } s m #[.ref b, .int (Int32.ofNat o), .ref d, .int (Int32.ofNat q), .int (Int32.ofNat len)] below meth c Tl ([] ++ copyLocs d q i) 0 0 → Put d Bk s₁ Tl → Laid B Bk q (q + i) (fun j => Value.int (lo8 (cv A (o + (j - q))))) →
      Steps p.tables e below (s₁.setTop (entryFrame m #[.ref b, .int (Int32.ofNat o), .ref d, .int (Int32.ofNat q), .int (Int32.ofNat len)] 7)) (Tl.setTop (mkF m 3 #[.val (.ref b), .val (.int (Int32.ofNat (o + i))), .val (.ref d), .val (.int (Int32.ofNat (q + i))), .val (.int (Int32.ofNat len)), .val (.int (Int32.ofNat i)), z] [])) → ∃ (T' : State) (B' : Cell) (z' : Slot), Stand p l e { frames := 0, locals := 0, cells := 0, slots := 0 } s m #[.ref b, .int (Int32.ofNat o), .ref d, .int (Int32.ofNat q), .int (Int32.ofNat len)] below meth c T' ([] ++ copyLocs d q len) 0 0 ∧ Put d B' s₁ T' ∧ Laid B B' q (q + len) (fun j => Value.int (lo8 (cv A (o + (j - q))))) ∧
      Steps p.tables e below (s₁.setTop (entryFrame m #[.ref b, .int (Int32.ofNat o), .ref d, .int (Int32.ofNat q), .int (Int32.ofNat len)] 7)) (T'.setTop (mkF m 3 #[.val (.ref b), .val (.int (Int32.ofNat (o + len))), .val (.ref d), .val (.int (Int32.ofNat (q + len))), .val (.int (Int32.ofNat len)), .val (.int (Int32.ofNat len)), z'] [])) := by
    intro r
    induction r with
    | zero =>
      intro i hi z hz Tl Bk Xl pl fl cl
      have hil : i = len := by omega
      rw [hil] at Xl fl cl
      exact ⟨Tl, Bk, z, Xl, pl, fl, cl⟩
    | succ r ih =>
      intro i hi z hz Tl Bk Xl pl fl cl
      have all := X0.warmed.alike.symm.trans Xl.warmed.alike
      have hAl := hA0.keep all (pl.other hne hA0.1)
      have hBk := hB0.like all pl.1 fl.1 fl.2.1 fl.2.2.1
      have hlt : q + i < Bk.slots.size := by rw [fl.2.2.1]; omega
      have c3 : Steps p.tables e below (s₁.setTop (entryFrame m #[.ref b, .int (Int32.ofNat o), .ref d, .int (Int32.ofNat q), .int (Int32.ofNat len)] 7)) (Tl.setTop (mkF m 12 #[.val (.ref b), .val (.int (Int32.ofNat (o + i))), .val (.ref d), .val (.int (Int32.ofNat (q + i))), .val (.int (Int32.ofNat len)), .val (.int (Int32.ofNat i)), z] [.int (Int32.ofNat (o + i)), .ref b])) := cl.trans (by
        refine XS.iload Xl.here hexec rfl (hb hbytes d3) rfl ?_
        refine XS.iload Xl.here hexec rfl (hb hbytes d5) rfl ?_
        refine XS.icmpNo Xl.here hexec rfl (hb hbytes d7) rfl (ii_ge_f (lt32 (by omega) (by omega))) ?_
        refine XS.aloadN Xl.here hexec rfl (hb hbytes d10) rfl rfl ?_
        refine XS.iloadN Xl.here hexec rfl (hb hbytes d11) rfl ?_
        exact Steps.refl _)
      have c4 : Steps p.tables e below (s₁.setTop (entryFrame m #[.ref b, .int (Int32.ofNat o), .ref d, .int (Int32.ofNat q), .int (Int32.ofNat len)] 7)) (Tl.setTop (mkF m 13 #[.val (.ref b), .val (.int (Int32.ofNat (o + i))), .val (.ref d), .val (.int (Int32.ofNat (q + i))), .val (.int (Int32.ofNat len)), .val (.int (Int32.ofNat i)), z] [.int (cv A (o + i))])) := c3.trans (by
        refine Xl.aget hexec hAl rfl (hA.get (i := o + i) (by omega)) rfl rfl (hb hbytes d12) ?_
        exact Steps.refl _)
      have c5 : Steps p.tables e below (s₁.setTop (entryFrame m #[.ref b, .int (Int32.ofNat o), .ref d, .int (Int32.ofNat q), .int (Int32.ofNat len)] 7)) (Tl.setTop (mkF m 15 #[.val (.ref b), .val (.int (Int32.ofNat (o + i))), .val (.ref d), .val (.int (Int32.ofNat (q + i))), .val (.int (Int32.ofNat len)), .val (.int (Int32.ofNat i)), .val (.int (cv A (o + i)))] [])) := c4.trans (by
        refine XS.istoreS Xl.here hexec rfl (hb hbytes d13) rfl rfl hz ?_
        exact Steps.refl _)
      have c6 : Steps p.tables e below (s₁.setTop (entryFrame m #[.ref b, .int (Int32.ofNat o), .ref d, .int (Int32.ofNat q), .int (Int32.ofNat len)] 7)) (Tl.setTop (mkF m 31 #[.val (.ref b), .val (.int (Int32.ofNat (o + i))), .val (.ref d), .val (.int (Int32.ofNat (q + i))), .val (.int (Int32.ofNat len)), .val (.int (Int32.ofNat i)), .val (.int (cv A (o + i)))] [.int (lo8 (cv A (o + i))), .int (Int32.ofNat (q + i)), .ref d])) := c5.trans (by
        refine XS.iload Xl.here hexec rfl (hb hbytes d15) rfl ?_
        refine sipushV Xl.here hexec rfl 255 (hb hbytes d17) (by decide) ?_
        refine XS.icmpYes Xl.here hexec rfl (pc0 := 20) rfl (hb hbytes d20) rfl (ii_le_t (hp i (by omega))) (by decide) rfl ?_
        refine XS.aloadN Xl.here hexec rfl (hb hbytes d26) rfl rfl ?_
        refine XS.iloadN Xl.here hexec rfl (hb hbytes d27) rfl ?_
        refine XS.iload Xl.here hexec rfl (hb hbytes d28) rfl ?_
        refine i2b Xl.here hexec rfl (hb hbytes d30) rfl ?_
        exact Steps.refl _)
      obtain ⟨T7, X7, p7, st7⟩ := Xl.aput hexec hBk rfl hlt rfl (fits_lo8 (cv A (o + i))) (g := (mkF m 31 #[.val (.ref b), .val (.int (Int32.ofNat (o + i))), .val (.ref d), .val (.int (Int32.ofNat (q + i))), .val (.int (Int32.ofNat len)), .val (.int (Int32.ofNat i)), .val (.int (cv A (o + i)))] [.int (lo8 (cv A (o + i))), .int (Int32.ofNat (q + i)), .ref d])) rfl (rest := []) rfl (hb hbytes d31)
      have c8 : Steps p.tables e below (s₁.setTop (entryFrame m #[.ref b, .int (Int32.ofNat o), .ref d, .int (Int32.ofNat q), .int (Int32.ofNat len)] 7)) (T7.setTop (mkF m 32 #[.val (.ref b), .val (.int (Int32.ofNat (o + i))), .val (.ref d), .val (.int (Int32.ofNat (q + i))), .val (.int (Int32.ofNat len)), .val (.int (Int32.ofNat i)), .val (.int (cv A (o + i)))] [])) := c6.trans (st7 _ (Steps.refl _))
      have c9 : Steps p.tables e below (s₁.setTop (entryFrame m #[.ref b, .int (Int32.ofNat o), .ref d, .int (Int32.ofNat q), .int (Int32.ofNat len)] 7)) (T7.setTop (mkF m 3 #[.val (.ref b), .val (.int (Int32.ofNat (o + i) + 1)), .val (.ref d), .val (.int (Int32.ofNat (q + i) + 1)), .val (.int (Int32.ofNat len)), .val (.int (Int32.ofNat i + 1)), .val (.int (cv A (o + i)))] [])) := c8.trans (by
        refine iincV X7.here hexec rfl 1 (hb hbytes d32) (by decide) rfl rfl ?_
        refine iincV X7.here hexec rfl 1 (hb hbytes d35) (by decide) rfl rfl ?_
        refine iincV X7.here hexec rfl 1 (hb hbytes d38) (by decide) rfl rfl ?_
        refine XS.goto X7.here hexec rfl (pc0 := 41) rfl (hb hbytes d41) (by decide) rfl ?_
        exact Steps.refl _)
      have c10 : Steps p.tables e below (s₁.setTop (entryFrame m #[.ref b, .int (Int32.ofNat o), .ref d, .int (Int32.ofNat q), .int (Int32.ofNat len)] 7)) (T7.setTop (mkF m 3 #[.val (.ref b), .val (.int (Int32.ofNat (o + (i + 1)))), .val (.ref d), .val (.int (Int32.ofNat (q + (i + 1)))), .val (.int (Int32.ofNat len)), .val (.int (Int32.ofNat (i + 1))), .val (.int (cv A (o + i)))] [])) := by
        have := c9
        rw [succ32, succ32, succ32] at this
        exact this
      exact ih (i + 1) (by omega) _ (Or.inr ⟨_, rfl, rfl⟩) T7 _ (by rw [copyLocs_step, ← List.append_assoc]; exact X7) (pl.trans p7) (fl.step (by omega) hlt (by simp)) c10
  obtain ⟨T9, B9, z9, X9, p9, f9, g9⟩ := loop len 0 (by omega) .unset (Or.inl rfl) s₁ B (by simpa [copyLocs] using X0) ⟨hB0.1, fun _ _ => rfl, rfl⟩ (Laid.zero _ _ _) c2
  have c11 : Steps p.tables e below (s₁.setTop (entryFrame m #[.ref b, .int (Int32.ofNat o), .ref d, .int (Int32.ofNat q), .int (Int32.ofNat len)] 7)) (T9.setTop (mkF m 46 #[.val (.ref b), .val (.int (Int32.ofNat (o + len))), .val (.ref d), .val (.int (Int32.ofNat (q + len))), .val (.int (Int32.ofNat len)), .val (.int (Int32.ofNat len)), z9] [.int (Int32.ofNat len)])) := g9.trans (by
    refine XS.iload X9.here hexec rfl (hb hbytes d3) rfl ?_
    refine XS.iload X9.here hexec rfl (hb hbytes d5) rfl ?_
    refine XS.icmpYes X9.here hexec rfl (pc0 := 7) rfl (hb hbytes d7) rfl (ii_ge_t (nlt32 (by omega) (Nat.le_refl _))) (by decide) rfl ?_
    refine XS.iload X9.here hexec rfl (hb hbytes d44) rfl ?_
    exact Steps.refl _)
  exact ⟨T9, some (.int (Int32.ofNat len)), _, _, _, X9, by simp, rfl, rfl, (fun h => by cases h), ⟨rfl, B9, p9.from hh0, f9⟩, fun fs hl => c11.trans (X9.ireturnOut hexec hret rfl (Or.inl rfl) (hb hbytes d46) hl)⟩
end Cmp5
namespace Cmp3
def yN : MethodName := ⟨"java/lang/StringUTF16", "compress", "([CII)[B"⟩
abbrev yB : ByteArray := jdk_52_method_16_code
theorem d0 : decode yB 0 = .ok (.iload_n 2, 1) := by decide +kernel
theorem d1 : decode yB 1 = .ok (.newarray .byte, 2) := by decide +kernel
theorem d3 : decode yB 3 = .ok (.astore_n 3, 1) := by decide +kernel
theorem d4 : decode yB 4 = .ok (.aload_n 0, 1) := by decide +kernel
theorem d5 : decode yB 5 = .ok (.iload_n 1, 1) := by decide +kernel
theorem d6 : decode yB 6 = .ok (.aload_n 3, 1) := by decide +kernel
theorem d7 : decode yB 7 = .ok (.iconst 0, 1) := by decide +kernel
theorem d8 : decode yB 8 = .ok (.iload_n 2, 1) := by decide +kernel
theorem d9 : decode yB 9 = .ok (.invokestatic 115, 3) := by decide +kernel
theorem d12 : decode yB 12 = .ok (.istore 4, 2) := by decide +kernel
theorem d14 : decode yB 14 = .ok (.iload 4, 2) := by decide +kernel
theorem d16 : decode yB 16 = .ok (.iload_n 2, 1) := by decide +kernel
theorem d17 : decode yB 17 = .ok (.if_icmp (.eq) 40, 3) := by decide +kernel
theorem d57 : decode yB 57 = .ok (.aload_n 3, 1) := by decide +kernel
theorem d58 : decode yB 58 = .ok (.areturn, 1) := by decide +kernel
def site : List Cond := [.arrayClass .byte, Cmp5.tab] ++ staticW U16 115 Cmp5.yN
def tab : Cond := tabOf yN yB 6 (some (.array .byte)) site
def P (b : Addr) (A : Cell) (o len : Nat) (args : Array Value) (s : State) : Prop := args = #[.ref b, .int (Int32.ofNat o), .int (Int32.ofNat len)] ∧ Ch b A s ∧ o + len ≤ A.slots.size ∧ len ≤ 536870912 ∧ ∀ i, i < len → ¬ 255 < cv A (o + i)
def E (b : Addr) (A : Cell) (o len : Nat) (r : Option Value) (s u : State) : Prop := NewArr .byte "[B" len (fun j => .int (lo8 (cv A (o + j)))) r s u ∧ u.heap.size = s.heap.size + 1
/-- no char of the range above 255: a new byte[] of their low bytes -/
theorem law (l : Launch) (b : Addr) (A : Cell) (o len : Nat) : Law l yN 3 3 1 18 yB 6 (some (.array .byte)) site (P b A o len) (E b A o len) [] 1 len := by
  refine Law.of_walk (plainFor_of_name (by decide +kernel)) (by decide +kernel) (by decide +kernel) (by decide) (fun _ _ h => by rw [h.1]; rfl) (fun _ U U' hal hh h => ⟨h.1, h.2.1.mv hal hh, h.2.2⟩) (fun r U U' V V' h1 hal h2 h => ⟨NewArr.mv r U U' V V' h1 hal h2 h.1, by rw [h1, h2]; exact h.2⟩) ?_
  intro p e s m args below meth c s₁ X0 hexec hbytes hml hret hlk hnm hown hh0 W hP
  obtain ⟨rfl, hA, l1, l2, hp⟩ := hP
  have a31 := hA.1.2.2.2
  have c1 : Steps p.tables e below (s₁.setTop (entryFrame m #[.ref b, .int (Int32.ofNat o), .int (Int32.ofNat len)] 6)) (s₁.setTop (mkF m 0 #[.val (.ref b), .val (.int (Int32.ofNat o)), .val (.int (Int32.ofNat len)), .unset, .unset, .unset] [])) := entry rfl
  have c2 : Steps p.tables e below (s₁.setTop (entryFrame m #[.ref b, .int (Int32.ofNat o), .int (Int32.ofNat len)] 6)) (s₁.setTop (mkF m 1 #[.val (.ref b), .val (.int (Int32.ofNat o)), .val (.int (Int32.ofNat len)), .unset, .unset, .unset] [.int (Int32.ofNat len)])) := c1.trans (by
    refine XS.iloadN X0.here hexec rfl (hb hbytes d0) rfl ?_
    exact Steps.refl _)
  obtain ⟨T3, B3, X3, ba3, bs3, bv3, bh3, bf3, st3⟩ := X0.anew hexec (atype := .byte) (wk W (.arrayClass .byte)) rfl (by show len * 1 ≤ _; omega) (by omega) (g := (mkF m 1 #[.val (.ref b), .val (.int (Int32.ofNat o)), .val (.int (Int32.ofNat len)), .unset, .unset, .unset] [.int (Int32.ofNat len)])) rfl (hb hbytes d1) (rest := []) rfl (Nat.le_refl _) (by show 0 + len ≤ len; omega)
  rw [hh0] at ba3 st3
  have kp3 : XT.Kept s T3 := (XT.Kept.of_eq hh0).push bh3
  have hA3 := hA.keep X3.warmed.alike (kp3 _ _ hA.1.1)
  have hne : b ≠ s.heap.size := hA.1.ne
  have c4 : Steps p.tables e below (s₁.setTop (entryFrame m #[.ref b, .int (Int32.ofNat o), .int (Int32.ofNat len)] 6)) (T3.setTop (mkF m 3 #[.val (.ref b), .val (.int (Int32.ofNat o)), .val (.int (Int32.ofNat len)), .unset, .unset, .unset] [.ref s.heap.size])) := c2.trans (st3 _ (Steps.refl _))
  have c5 : Steps p.tables e below (s₁.setTop (entryFrame m #[.ref b, .int (Int32.ofNat o), .int (Int32.ofNat len)] 6)) (T3.setTop (mkF m 9 #[.val (.ref b), .val (.int (Int32.ofNat o)), .val (.int (Int32.ofNat len)), .val (.ref s.heap.size), .unset, .unset] [.int (Int32.ofNat len), .int 0, .ref s.heap.size, .int (Int32.ofNat o), .ref b])) := c4.trans (by
    refine XS.astoreN X3.here hexec rfl (hb hbytes d3) rfl rfl rfl ?_
    refine XS.aloadN X3.here hexec rfl (hb hbytes d4) rfl rfl ?_
    refine XS.iloadN X3.here hexec rfl (hb hbytes d5) rfl ?_
    refine XS.aloadN X3.here hexec rfl (hb hbytes d6) rfl rfl ?_
    refine iconstV X3.here hexec rfl 0 (hb hbytes d7) (by decide) ?_
    refine XS.iloadN X3.here hexec rfl (hb hbytes d8) rfl ?_
    exact Steps.refl _)
  obtain ⟨v6, T6, X6, E6, g6⟩ := X3.callS hexec (Cmp5.law l b A s.heap.size B3 o 0 len) hown (wks W (staticW U16 115 Cmp5.yN)) (wk W Cmp5.tab) (W := 0) (Nat.le_of_ble_eq_true rfl) (Nat.le_of_ble_eq_true rfl) (Nat.le_refl _) (by show 0 + len + 0 ≤ len; omega) (g := (mkF m 9 #[.val (.ref b), .val (.int (Int32.ofNat o)), .val (.int (Int32.ofNat len)), .val (.ref s.heap.size), .unset, .unset] [.int (Int32.ofNat len), .int (Int32.ofNat 0), .ref s.heap.size, .int (Int32.ofNat o), .ref b])) rfl (by rw [hml]; rfl) c5 (argsL := [.ref b, .int (Int32.ofNat o), .ref s.heap.size, .int (Int32.ofNat 0), .int (Int32.ofNat len)]) (rest := []) rfl rfl (by show 2 * 0 + 0 ≤ _; decide) (hb hbytes d9) (⟨rfl, hA3, ba3, hne, l1, by rw [bs3]; simp, hp⟩)
  obtain ⟨rfl, B6, p6, f6⟩ := E6
  have c7 : Steps p.tables e below (s₁.setTop (entryFrame m #[.ref b, .int (Int32.ofNat o), .int (Int32.ofNat len)] 6)) (T6.setTop (mkF m 12 #[.val (.ref b), .val (.int (Int32.ofNat o)), .val (.int (Int32.ofNat len)), .val (.ref s.heap.size), .unset, .unset] [.int (Int32.ofNat len)])) := g6
  have c8 : Steps p.tables e below (s₁.setTop (entryFrame m #[.ref b, .int (Int32.ofNat o), .int (Int32.ofNat len)] 6)) (T6.setTop (mkF m 58 #[.val (.ref b), .val (.int (Int32.ofNat o)), .val (.int (Int32.ofNat len)), .val (.ref s.heap.size), .val (.int (Int32.ofNat len)), .unset] [.ref s.heap.size])) := c7.trans (by
    refine XS.istore X6.here hexec rfl (hb hbytes d12) rfl rfl ?_
    refine XS.iload X6.here hexec rfl (hb hbytes d14) rfl ?_
    refine XS.iloadN X6.here hexec rfl (hb hbytes d16) rfl ?_
    refine XS.icmpYes X6.here hexec rfl (pc0 := 17) rfl (hb hbytes d17) rfl (ii_eq_t rfl) (by decide) rfl ?_
    refine XS.aloadN X6.here hexec rfl (hb hbytes d57) rfl rfl ?_
    exact Steps.refl _)
  have X8 := X6.wide (L' := []) (cells' := 1) (slots' := len) (fun x hx hlt => by
    simp only [List.nil_append, copyLocs, List.mem_map, List.mem_range] at hx
    obtain ⟨i, -, rfl⟩ := hx
    exact absurd hlt (Nat.lt_irrefl _)) (Nat.le_refl _) (by omega)
  exact ⟨T6, some (.ref s.heap.size), _, _, _, X8, rfl, rfl, rfl, (fun h => by cases h), ⟨⟨rfl, B6, ba3.like (X3.warmed.alike.symm.trans X6.warmed.alike) p6.1 f6.1 f6.2.1 f6.2.2.1, f6.2.1.trans bv3, by rw [X6.warmed.alike.findClass, f6.1]; exact bf3, by rw [f6.2.2.1, bs3]; simp, fun j hj => by rw [f6.2.2.2 j, if_pos (by omega)]; rfl, kp3.put p6 (Nat.le_refl _)⟩, by rw [p6.2.2, bh3, hh0]; simp⟩, fun fs hl => c8.trans (X8.areturnOut hexec rfl hret rfl (hb hbytes d58) hl)⟩
end Cmp3
namespace CodL
def yN : MethodName := ⟨"java/lang/StringUTF16", "coderFromArrayLen", "([BI)B"⟩
abbrev yB : ByteArray := jdk_52_method_15_code
theorem d0 : decode yB 0 = .ok (.iload_n 1, 1) := by decide +kernel
theorem d1 : decode yB 1 = .ok (.aload_n 0, 1) := by decide +kernel
theorem d2 : decode yB 2 = .ok (.arraylength, 1) := by decide +kernel
theorem d3 : decode yB 3 = .ok (.isub, 1) := by decide +kernel
theorem d4 : decode yB 4 = .ok (.bipush 31, 2) := by decide +kernel
theorem d6 : decode yB 6 = .ok (.iushr, 1) := by decide +kernel
theorem d7 : decode yB 7 = .ok (.i2b, 1) := by decide +kernel
theorem d8 : decode yB 8 = .ok (.ireturn, 1) := by decide +kernel
def site : List Cond := []
def tab : Cond := tabOf yN yB 2 (some .byte) site
def P (d : Addr) (B : Cell) (args : Array Value) (s : State) : Prop := args = #[.ref d, .int (Int32.ofNat B.slots.size)] ∧ Arr .byte d B s
def E (r : Option Value) (s u : State) : Prop := XT.PureE (some (.int 0)) r s u
/-- an array as long as the number of chars: LATIN1 -/
theorem law (l : Launch) (d : Addr) (B : Cell) : Law l yN 2 2 0 0 yB 2 (some .byte) site (P d B) E [] 0 0 := by
  refine Law.of_walk (plainFor_of_name (by decide +kernel)) (by decide +kernel) (by decide +kernel) (by decide) (fun _ _ h => by rw [h.1]; rfl) (fun _ U U' hal hh h => ⟨h.1, h.2.mv hal hh⟩) (fun r U U' V V' h1 hal h2 h => XT.PureE.mv r U U' V V' h1 hal h2 h) ?_
  intro p e s m args below meth c s₁ X0 hexec hbytes hml hret hlk hnm hown hh0 W hP
  obtain ⟨rfl, hB⟩ := hP
  have hB0 := hB.mv X0.warmed.alike hh0
  have c1 : Steps p.tables e below (s₁.setTop (entryFrame m #[.ref d, .int (Int32.ofNat B.slots.size)] 2)) (s₁.setTop (mkF m 0 #[.val (.ref d), .val (.int (Int32.ofNat B.slots.size))] [])) := entry rfl
  have c2 : Steps p.tables e below (s₁.setTop (entryFrame m #[.ref d, .int (Int32.ofNat B.slots.size)] 2)) (s₁.setTop (mkF m 2 #[.val (.ref d), .val (.int (Int32.ofNat B.slots.size))] [.ref d, .int (Int32.ofNat B.slots.size)])) := c1.trans (by
    refine XS.iloadN X0.here hexec rfl (hb hbytes d0) rfl ?_
    refine XS.aloadN X0.here hexec rfl (hb hbytes d1) rfl rfl ?_
    exact Steps.refl _)
  have c3 : Steps p.tables e below (s₁.setTop (entryFrame m #[.ref d, .int (Int32.ofNat B.slots.size)] 2)) (s₁.setTop (mkF m 8 #[.val (.ref d), .val (.int (Int32.ofNat B.slots.size))] [.int (lo8 (ushr (Int32.ofNat B.slots.size - Int32.ofNat B.slots.size) 31))])) := c2.trans (by
    refine X0.alen hexec hB0 rfl rfl (hb hbytes d2) ?_
    refine XS.isub X0.here hexec rfl (hb hbytes d3) rfl ?_
    refine bipushV X0.here hexec rfl 31 (hb hbytes d4) (by decide) ?_
    refine iushr X0.here hexec rfl (hb hbytes d6) rfl ?_
    refine i2b X0.here hexec rfl (hb hbytes d7) rfl ?_
    exact Steps.refl _)
  have e0 : lo8 (ushr (Int32.ofNat B.slots.size - Int32.ofNat B.slots.size) 31) = 0 := by rw [Int32.sub_self]; decide
  rw [e0] at c3
  exact ⟨s₁, some (.int 0), _, _, _, X0, rfl, rfl, rfl, (fun h => by cases h), ⟨rfl, hh0⟩, fun fs hl => c3.trans (X0.ireturnOut hexec hret rfl (Or.inr (Or.inr (Or.inl rfl))) (hb hbytes d8) hl)⟩
end CodL
/-- the String at a is Latin-1 over a new byte[] (the heap's one new cell): the low bytes of the len chars of A from o on; every cell but a is kept -/
def Got (a : Addr) (D : Cell) (fV fC : Field) (A : Cell) (o len : Nat) (r : Option Value) (s u : State) : Prop := r = none ∧ ∃ D' V : Cell, Blank "java/lang/String" a D' u ∧ Same D D' [fV.slot, fC.slot] ∧ D'.slots[fV.slot]? = some (.ref s.heap.size) ∧ D'.slots[fC.slot]? = some (.int 0) ∧ Arr .byte s.heap.size V u ∧ V.vm = .none ∧ u.vm.findClass "[B" = some V.cls ∧ V.slots.size = len ∧ (∀ j, j < len → V.slots[j]? = some (.int (lo8 (cv A (o + j))))) ∧ (∀ (y : Addr) (c : Cell), y ≠ a → s.heap[y]? = some c → u.heap[y]? = some c) ∧ u.heap.size = s.heap.size + 1
theorem Got.mv {a : Addr} {D A : Cell} {fV fC : Field} {o len : Nat} : ∀ r (U U' V V' : State), U'.heap = U.heap → V.vm.Alike V'.vm → V'.heap = V.heap → Got a D fV fC A o len r U V → Got a D fV fC A o len r U' V' :=
  fun r U U' V V' h1 hal h2 ⟨e0, D', X, a1, a2, a3, a4, a5, a6, a7, a8, a9, a10, a11⟩ => ⟨e0, D', X, a1.mv hal h2, a2, by rw [h1]; exact a3, a4, by rw [h1]; exact a5.mv hal h2, a6, by rw [hal.findClass]; exact a7, a8, a9, by rw [h1, h2]; exact a10, by rw [h1, h2]; exact a11⟩
namespace New4
def yN : MethodName := ⟨"java/lang/String", "<init>", "([CIILjava/lang/Void;)V"⟩
abbrev yB : ByteArray := jdk_42_method_149_code
theorem d0 : decode yB 0 = .ok (.aload_n 0, 1) := by decide +kernel
theorem d1 : decode yB 1 = .ok (.invokespecial 1, 3) := by decide +kernel
theorem d4 : decode yB 4 = .ok (.iload_n 3, 1) := by decide +kernel
theorem d5 : decode yB 5 = .ok (.ifCond (.ne) 22, 3) := by decide +kernel
theorem d27 : decode yB 27 = .ok (.getstatic 38, 3) := by decide +kernel
theorem d30 : decode yB 30 = .ok (.ifCond (.eq) 28, 3) := by decide +kernel
theorem d33 : decode yB 33 = .ok (.aload_n 1, 1) := by decide +kernel
theorem d34 : decode yB 34 = .ok (.iload_n 2, 1) := by decide +kernel
theorem d35 : decode yB 35 = .ok (.iload_n 3, 1) := by decide +kernel
theorem d36 : decode yB 36 = .ok (.invokestatic 177, 3) := by decide +kernel
theorem d39 : decode yB 39 = .ok (.astore 5, 2) := by decide +kernel
theorem d41 : decode yB 41 = .ok (.aload_n 0, 1) := by decide +kernel
theorem d42 : decode yB 42 = .ok (.aload 5, 2) := by decide +kernel
theorem d44 : decode yB 44 = .ok (.iload_n 3, 1) := by decide +kernel
theorem d45 : decode yB 45 = .ok (.invokestatic 47, 3) := by decide +kernel
theorem d48 : decode yB 48 = .ok (.putfield 15, 3) := by decide +kernel
theorem d51 : decode yB 51 = .ok (.aload_n 0, 1) := by decide +kernel
theorem d52 : decode yB 52 = .ok (.aload 5, 2) := by decide +kernel
theorem d54 : decode yB 54 = .ok (.putfield 9, 3) := by decide +kernel
theorem d57 : decode yB 57 = .ok (.return_, 1) := by decide +kernel
def site : List Cond := [.fieldLink "java/lang/String" 38 "java/lang/String" "COMPACT_STRINGS" "Z", Cmp3.tab, CodL.tab, .laysFinal "java/lang/String" "java/lang/String" "value" "[B", .fieldLink "java/lang/String" 9 "java/lang/String" "value" "[B", .laysFinal "java/lang/String" "java/lang/String" "coder" "B", .fieldLink "java/lang/String" 15 "java/lang/String" "coder" "B"] ++ objW "java/lang/String" 1 ++ staticW "java/lang/String" 177 Cmp3.yN ++ staticW "java/lang/String" 47 CodL.yN
def tab : Cond := tabOf yN yB 6 none site
def P (a : Addr) (D : Cell) (fV fC : Field) (b : Addr) (A : Cell) (z : Int32) (o len : Nat) (args : Array Value) (s : State) : Prop := args = #[.ref a, .ref b, .int (Int32.ofNat o), .int (Int32.ofNat len), .null] ∧ Blank "java/lang/String" a D s ∧ Found "java/lang/String" "value" "[B" fV s ∧ Found "java/lang/String" "coder" "B" fC s ∧ Ch b A s ∧ StaticIs s "java/lang/String" "COMPACT_STRINGS" "Z" (.int z) ∧ ¬ z = 0 ∧ 0 < len ∧ o + len ≤ A.slots.size ∧ len ≤ 536870912 ∧ ∀ i, i < len → ¬ 255 < cv A (o + i)
def E (a : Addr) (D : Cell) (fV fC : Field) (A : Cell) (o len : Nat) (r : Option Value) (s u : State) : Prop := Got a D fV fC A o len r s u
/-- len > 0, no char of the range above 255: a Latin-1 String of their low bytes -/
theorem law (l : Launch) (a : Addr) (D : Cell) (fV fC : Field) (b : Addr) (A : Cell) (z : Int32) (o len : Nat) : Law l yN 5 4 2 35 yB 6 none site (P a D fV fC b A z o len) (E a D fV fC A o len) [⟨a, fC.slot⟩, ⟨a, fV.slot⟩] 1 len := by
  refine Law.of_walk (plainFor_of_name (by decide +kernel)) (by decide +kernel) (by decide +kernel) (by decide) (fun _ _ h => by rw [h.1]; rfl) (fun _ U U' hal hh h => ⟨h.1, h.2.1.mv hal hh, h.2.2.1.al hal, h.2.2.2.1.al hal, h.2.2.2.2.1.mv hal hh, h.2.2.2.2.2.1.there hal hh, h.2.2.2.2.2.2⟩) (fun r U U' V V' h1 hal h2 h => Got.mv r U U' V V' h1 hal h2 h) ?_
  intro p e s m args below meth c s₁ X0 hexec hbytes hml hret hlk hnm hown hh0 W hP
  obtain ⟨rfl, hB, f1, f2, hA, s1, hz, l0, l1, l2, hp⟩ := hP
  have a31 := hA.1.2.2.2
  have c1 : Steps p.tables e below (s₁.setTop (entryFrame m #[.ref a, .ref b, .int (Int32.ofNat o), .int (Int32.ofNat len), .null] 6)) (s₁.setTop (mkF m 0 #[.val (.ref a), .val (.ref b), .val (.int (Int32.ofNat o)), .val (.int (Int32.ofNat len)), .val .null, .unset] [])) := entry rfl
  have c2 : Steps p.tables e below (s₁.setTop (entryFrame m #[.ref a, .ref b, .int (Int32.ofNat o), .int (Int32.ofNat len), .null] 6)) (s₁.setTop (mkF m 1 #[.val (.ref a), .val (.ref b), .val (.int (Int32.ofNat o)), .val (.int (Int32.ofNat len)), .val .null, .unset] [.ref a])) := c1.trans (by
    refine XS.aloadN X0.here hexec rfl (hb hbytes d0) rfl rfl ?_
    exact Steps.refl _)
  obtain ⟨T3, X3, q3, st3⟩ := X0.oinit hexec hown (wks W (objW "java/lang/String" 1)) (g := (mkF m 1 #[.val (.ref a), .val (.ref b), .val (.int (Int32.ofNat o)), .val (.int (Int32.ofNat len)), .val .null, .unset] [.ref a])) rfl (by rw [hml]; rfl) (rest := []) rfl (hb hbytes d1) (W := 0) (by show 2 * 0 + 0 ≤ _; decide) (Nat.le_of_ble_eq_true rfl) (Nat.le_of_ble_eq_true rfl)
  have hh3 := q3.trans hh0
  have c4 : Steps p.tables e below (s₁.setTop (entryFrame m #[.ref a, .ref b, .int (Int32.ofNat o), .int (Int32.ofNat len), .null] 6)) (T3.setTop (mkF m 27 #[.val (.ref a), .val (.ref b), .val (.int (Int32.ofNat o)), .val (.int (Int32.ofNat len)), .val .null, .unset] [])) := (c2.trans (st3 _ (Steps.refl _))).trans (by
    refine XS.iloadN X3.here hexec rfl (hb hbytes d4) rfl ?_
    refine XS.ifYes X3.here hexec rfl (pc0 := 5) rfl (hb hbytes d5) rfl (i0_ne_t (nz32 (by omega) l0)) (by decide) rfl ?_
    exact Steps.refl _)
  obtain ⟨T5, X5, q5, st5⟩ := X3.sget hexec hown (wk W (.fieldLink "java/lang/String" 38 "java/lang/String" "COMPACT_STRINGS" "Z")) s1 (fun _ _ h => by rw [hh3]; exact h) (g := (mkF m 27 #[.val (.ref a), .val (.ref b), .val (.int (Int32.ofNat o)), .val (.int (Int32.ofNat len)), .val .null, .unset] [])) rfl (hb hbytes d27)
  have hh5 := q5.trans hh3
  have c6 : Steps p.tables e below (s₁.setTop (entryFrame m #[.ref a, .ref b, .int (Int32.ofNat o), .int (Int32.ofNat len), .null] 6)) (T5.setTop (mkF m 30 #[.val (.ref a), .val (.ref b), .val (.int (Int32.ofNat o)), .val (.int (Int32.ofNat len)), .val .null, .unset] [.int z])) := c4.trans (st5 _ (Steps.refl _))
  have c7 : Steps p.tables e below (s₁.setTop (entryFrame m #[.ref a, .ref b, .int (Int32.ofNat o), .int (Int32.ofNat len), .null] 6)) (T5.setTop (mkF m 36 #[.val (.ref a), .val (.ref b), .val (.int (Int32.ofNat o)), .val (.int (Int32.ofNat len)), .val .null, .unset] [.int (Int32.ofNat len), .int (Int32.ofNat o), .ref b])) := c6.trans (by
    refine XS.ifNo X5.here hexec rfl (hb hbytes d30) rfl (i0_eq_f hz) ?_
    refine XS.aloadN X5.here hexec rfl (hb hbytes d33) rfl rfl ?_
    refine XS.iloadN X5.here hexec rfl (hb hbytes d34) rfl ?_
    refine XS.iloadN X5.here hexec rfl (hb hbytes d35) rfl ?_
    exact Steps.refl _)
  obtain ⟨v8, T8, X8, E8, g8⟩ := X5.callS hexec (Cmp3.law l b A o len) hown (wks W (staticW "java/lang/String" 177 Cmp3.yN)) (wk W Cmp3.tab) (W := 0) (Nat.le_of_ble_eq_true rfl) (Nat.le_of_ble_eq_true rfl) (Nat.le_refl _) (by show 0 + len ≤ len; omega) (g := (mkF m 36 #[.val (.ref a), .val (.ref b), .val (.int (Int32.ofNat o)), .val (.int (Int32.ofNat len)), .val .null, .unset] [.int (Int32.ofNat len), .int (Int32.ofNat o), .ref b])) rfl (by rw [hml]; rfl) c7 (argsL := [.ref b, .int (Int32.ofNat o), .int (Int32.ofNat len)]) (rest := []) rfl rfl (by show 2 * 0 + 0 ≤ _; decide) (hb hbytes d36) (⟨rfl, hA.mv X5.warmed.alike hh5, l1, l2, hp⟩)
  obtain ⟨e8, z8⟩ := E8
  obtain ⟨rfl, N, n1, n2, n3, n4, n5, n6⟩ := NewArr.mv _ T5 s _ _ hh5.symm (Vm.Alike.refl _) rfl e8
  rw [hh5] at z8
  have hB1 := hB.keep X8.warmed.alike (n6 _ _ hB.1)
  have hne : s.heap.size ≠ a := (Nat.ne_of_lt (Array.getElem?_eq_some_iff.mp hB.1).1).symm
  have c9 : Steps p.tables e below (s₁.setTop (entryFrame m #[.ref a, .ref b, .int (Int32.ofNat o), .int (Int32.ofNat len), .null] 6)) (T8.setTop (mkF m 39 #[.val (.ref a), .val (.ref b), .val (.int (Int32.ofNat o)), .val (.int (Int32.ofNat len)), .val .null, .unset] [.ref s.heap.size])) := g8
  have c10 : Steps p.tables e below (s₁.setTop (entryFrame m #[.ref a, .ref b, .int (Int32.ofNat o), .int (Int32.ofNat len), .null] 6)) (T8.setTop (mkF m 45 #[.val (.ref a), .val (.ref b), .val (.int (Int32.ofNat o)), .val (.int (Int32.ofNat len)), .val .null, .val (.ref s.heap.size)] [.int (Int32.ofNat N.slots.size), .ref s.heap.size, .ref a])) := by
    have hc : Steps p.tables e below (s₁.setTop (entryFrame m #[.ref a, .ref b, .int (Int32.ofNat o), .int (Int32.ofNat len), .null] 6)) (T8.setTop (mkF m 45 #[.val (.ref a), .val (.ref b), .val (.int (Int32.ofNat o)), .val (.int (Int32.ofNat len)), .val .null, .val (.ref s.heap.size)] [.int (Int32.ofNat len), .ref s.heap.size, .ref a])) := c9.trans (by
      refine XS.astore X8.here hexec rfl (hb hbytes d39) rfl rfl rfl ?_
      refine XS.aloadN X8.here hexec rfl (hb hbytes d41) rfl rfl ?_
      refine XS.aload X8.here hexec rfl (hb hbytes d42) rfl rfl ?_
      refine XS.iloadN X8.here hexec rfl (hb hbytes d44) rfl ?_
      exact Steps.refl _)
    rw [n4]; exact hc
  obtain ⟨v11, T11, X11, E11, g11⟩ := X8.callS hexec (CodL.law l s.heap.size N) hown (wks W (staticW "java/lang/String" 47 CodL.yN)) (wk W CodL.tab) (W := 1) (Nat.le_of_ble_eq_true rfl) (Nat.le_of_ble_eq_true rfl) (Nat.le_refl _) (by show 0 + len + 0 ≤ len; omega) (g := (mkF m 45 #[.val (.ref a), .val (.ref b), .val (.int (Int32.ofNat o)), .val (.int (Int32.ofNat len)), .val .null, .val (.ref s.heap.size)] [.int (Int32.ofNat N.slots.size), .ref s.heap.size, .ref a])) rfl (by rw [hml]; rfl) c10 (argsL := [.ref s.heap.size, .int (Int32.ofNat N.slots.size)]) (rest := [.ref a]) rfl rfl (by show 2 * 0 + (1 + 0) ≤ _; decide) (hb hbytes d45) (⟨rfl, n1⟩)
  obtain ⟨rfl, q11⟩ := E11
  have hB11 := hB1.mv (X8.warmed.alike.symm.trans X11.warmed.alike) q11
  have c12 : Steps p.tables e below (s₁.setTop (entryFrame m #[.ref a, .ref b, .int (Int32.ofNat o), .int (Int32.ofNat len), .null] 6)) (T11.setTop (mkF m 48 #[.val (.ref a), .val (.ref b), .val (.int (Int32.ofNat o)), .val (.int (Int32.ofNat len)), .val .null, .val (.ref s.heap.size)] [.int 0, .ref a])) := g11
  obtain ⟨T13, X13, p13, bl13, sl13, st13⟩ := X11.finit hexec hown (wk W (.fieldLink "java/lang/String" 15 "java/lang/String" "coder" "B")) (Or.inr ⟨_, (wk W (.laysFinal "java/lang/String" "java/lang/String" "coder" "B"))⟩) (Or.inl ⟨rfl, hnm⟩) f2 (Or.inl rfl) hB11 (t := .byte) (by decide +kernel) rfl (g := (mkF m 48 #[.val (.ref a), .val (.ref b), .val (.int (Int32.ofNat o)), .val (.int (Int32.ofNat len)), .val .null, .val (.ref s.heap.size)] [.int 0, .ref a])) rfl (rest := []) rfl (hb hbytes d48)
  have c14 : Steps p.tables e below (s₁.setTop (entryFrame m #[.ref a, .ref b, .int (Int32.ofNat o), .int (Int32.ofNat len), .null] 6)) (T13.setTop (mkF m 54 #[.val (.ref a), .val (.ref b), .val (.int (Int32.ofNat o)), .val (.int (Int32.ofNat len)), .val .null, .val (.ref s.heap.size)] [.ref s.heap.size, .ref a])) := (c12.trans (st13 _ (Steps.refl _))).trans (by
    refine XS.aloadN X13.here hexec rfl (hb hbytes d51) rfl rfl ?_
    refine XS.aload X13.here hexec rfl (hb hbytes d52) rfl rfl ?_
    exact Steps.refl _)
  obtain ⟨T15, X15, p15, bl15, sl15, st15⟩ := X13.finit hexec hown (wk W (.fieldLink "java/lang/String" 9 "java/lang/String" "value" "[B")) (Or.inr ⟨_, (wk W (.laysFinal "java/lang/String" "java/lang/String" "value" "[B"))⟩) (Or.inl ⟨rfl, hnm⟩) f1 (Or.inl rfl) bl13 (t := (.array .byte)) (by decide +kernel) rfl (g := (mkF m 54 #[.val (.ref a), .val (.ref b), .val (.int (Int32.ofNat o)), .val (.int (Int32.ofNat len)), .val .null, .val (.ref s.heap.size)] [.ref s.heap.size, .ref a])) rfl (rest := []) rfl (hb hbytes d54)
  have c16 : Steps p.tables e below (s₁.setTop (entryFrame m #[.ref a, .ref b, .int (Int32.ofNat o), .int (Int32.ofNat len), .null] 6)) (T15.setTop (mkF m 57 #[.val (.ref a), .val (.ref b), .val (.int (Int32.ofNat o)), .val (.int (Int32.ofNat len)), .val .null, .val (.ref s.heap.size)] [])) := c14.trans (st15 _ (Steps.refl _))
  have ap := apart (Or.inr ⟨_, (wk W (.laysFinal "java/lang/String" "java/lang/String" "value" "[B"))⟩) (Or.inr ⟨_, (wk W (.laysFinal "java/lang/String" "java/lang/String" "coder" "B"))⟩) f1 f2 (t₁ := .array .byte) (t₂ := .byte) (by decide +kernel) (by decide +kernel) (by decide)
  have al := X8.warmed.alike.symm.trans X15.warmed.alike
  have n7 : T11.heap[s.heap.size]? = some N := by rw [q11]; exact n1.1
  exact ⟨T15, none, _, _, _, X15, by simp, rfl, by omega, (fun _ => rfl), ⟨rfl, _, N, bl15, ((Same.refl D _).set _ (by simp)).set _ (by simp), sl15, (Cell.slots_setSlot_ne _ ap).trans sl13, n1.keep al (p15.other hne (p13.other hne n7)), n2, by rw [al.findClass]; exact n3, n4, n5, fun y c h1 h2 => p15.other h1 (p13.other h1 (by rw [q11]; exact n6 y c h2)), by rw [p15.2.2, p13.2.2, q11]; exact z8⟩, fun fs hl => c16.trans (X15.returnOut hexec hret (hb hbytes d57) hl)⟩
end New4
namespace New1
def yN : MethodName := ⟨"java/lang/String", "<init>", "([C)V"⟩
abbrev yB : ByteArray := jdk_42_method_3_code
theorem d0 : decode yB 0 = .ok (.aload_n 0, 1) := by decide +kernel
theorem d1 : decode yB 1 = .ok (.aload_n 1, 1) := by decide +kernel
theorem d2 : decode yB 2 = .ok (.iconst 0, 1) := by decide +kernel
theorem d3 : decode yB 3 = .ok (.aload_n 1, 1) := by decide +kernel
theorem d4 : decode yB 4 = .ok (.arraylength, 1) := by decide +kernel
theorem d5 : decode yB 5 = .ok (.aconst_null, 1) := by decide +kernel
theorem d6 : decode yB 6 = .ok (.invokespecial 27, 3) := by decide +kernel
theorem d9 : decode yB 9 = .ok (.return_, 1) := by decide +kernel
def site : List Cond := [New4.tab] ++ initW "java/lang/String" 27 New4.yN
def tab : Cond := tabOf yN yB 2 none site
def P (a : Addr) (D : Cell) (fV fC : Field) (b : Addr) (A : Cell) (z : Int32) (args : Array Value) (s : State) : Prop := args = #[.ref a, .ref b] ∧ Blank "java/lang/String" a D s ∧ Found "java/lang/String" "value" "[B" fV s ∧ Found "java/lang/String" "coder" "B" fC s ∧ Ch b A s ∧ StaticIs s "java/lang/String" "COMPACT_STRINGS" "Z" (.int z) ∧ ¬ z = 0 ∧ 0 < A.slots.size ∧ A.slots.size ≤ 536870912 ∧ ∀ i, i < A.slots.size → ¬ 255 < cv A i
def E (a : Addr) (D : Cell) (fV fC : Field) (A : Cell) (r : Option Value) (s u : State) : Prop := Got a D fV fC A 0 A.slots.size r s u
/-- new String(chars), not empty, no char above 255: a Latin-1 String of their low bytes -/
theorem law (l : Launch) (a : Addr) (D : Cell) (fV fC : Field) (b : Addr) (A : Cell) (z : Int32) : Law l yN 2 1 3 52 yB 2 none site (P a D fV fC b A z) (E a D fV fC A) [⟨a, fC.slot⟩, ⟨a, fV.slot⟩] 1 A.slots.size := by
  refine Law.of_walk (plainFor_of_name (by decide +kernel)) (by decide +kernel) (by decide +kernel) (by decide) (fun _ _ h => by rw [h.1]; rfl) (fun _ U U' hal hh h => ⟨h.1, h.2.1.mv hal hh, h.2.2.1.al hal, h.2.2.2.1.al hal, h.2.2.2.2.1.mv hal hh, h.2.2.2.2.2.1.there hal hh, h.2.2.2.2.2.2⟩) (fun r U U' V V' h1 hal h2 h => Got.mv r U U' V V' h1 hal h2 h) ?_
  intro p e s m args below meth c s₁ X0 hexec hbytes hml hret hlk hnm hown hh0 W hP
  obtain ⟨rfl, hB, f1, f2, hA, s1, hz, l0, l2, hp⟩ := hP
  have c1 : Steps p.tables e below (s₁.setTop (entryFrame m #[.ref a, .ref b] 2)) (s₁.setTop (mkF m 0 #[.val (.ref a), .val (.ref b)] [])) := entry rfl
  have c2 : Steps p.tables e below (s₁.setTop (entryFrame m #[.ref a, .ref b] 2)) (s₁.setTop (mkF m 6 #[.val (.ref a), .val (.ref b)] [.null, .int (Int32.ofNat A.slots.size), .int 0, .ref b, .ref a])) := c1.trans (by
    refine XS.aloadN X0.here hexec rfl (hb hbytes d0) rfl rfl ?_
    refine XS.aloadN X0.here hexec rfl (hb hbytes d1) rfl rfl ?_
    refine iconstV X0.here hexec rfl 0 (hb hbytes d2) (by decide) ?_
    refine XS.aloadN X0.here hexec rfl (hb hbytes d3) rfl rfl ?_
    refine X0.alen hexec (hA.1.mv X0.warmed.alike hh0) rfl rfl (hb hbytes d4) ?_
    refine XS.aconstNull X0.here hexec rfl (hb hbytes d5) ?_
    exact Steps.refl _)
  obtain ⟨v3, T3, X3, E3, g3⟩ := X0.callN hexec (New4.law l a D fV fC b A z 0 A.slots.size) rfl hown (wks W (initW "java/lang/String" 27 New4.yN)) (W New4.tab (by simp only [site, List.mem_cons, List.mem_append, true_or, or_true])) (W := 0) (Nat.le_of_ble_eq_true rfl) (Nat.le_of_ble_eq_true rfl) (Nat.le_refl _) (by show 0 + A.slots.size ≤ A.slots.size; omega) (g := (mkF m 6 #[.val (.ref a), .val (.ref b)] [.null, .int (Int32.ofNat A.slots.size), .int (Int32.ofNat 0), .ref b, .ref a])) rfl (by rw [hml]; rfl) c2 (argsL := [.ref b, .int (Int32.ofNat 0), .int (Int32.ofNat A.slots.size), .null]) (rest := []) rfl rfl (by show 2 * 0 + 0 ≤ _; decide) (hb hbytes d6) (⟨rfl, hB.mv X0.warmed.alike hh0, f1.al X0.warmed.alike, f2.al X0.warmed.alike, hA.mv X0.warmed.alike hh0, s1.there X0.warmed.alike hh0, hz, l0, by omega, l2, fun i hi => by rw [Nat.zero_add]; exact hp i hi⟩)
  have e0 := Got.mv _ s₁ s _ _ hh0.symm (Vm.Alike.refl _) rfl E3
  obtain rfl := e0.1
  have c4 : Steps p.tables e below (s₁.setTop (entryFrame m #[.ref a, .ref b] 2)) (T3.setTop (mkF m 9 #[.val (.ref a), .val (.ref b)] [])) := g3
  exact ⟨T3, none, _, _, _, X3, by simp, rfl, by omega, (fun _ => rfl), e0, fun fs hl => c4.trans (X3.returnOut hexec hret (hb hbytes d9) hl)⟩
theorem pays {l : Launch} {R : Room} {p : Program} {e : Env} {below : List Frame} {s : State} {sargs : Array Value} {len W : Nat} (a : Addr) (D : Cell) (fV fC : Field) (b : Addr) (A : Cell) (z : Int32) (htab : tab.before sargs s = true) (hfr : 4 ≤ R.frames) (hlo : W + 65 ≤ R.locals) :
    Back l R p e below s sargs yN len W (fun A₁ a₁ => A₁.cells + 1 ≤ R.cells ∧ A₁.slots + A.slots.size ≤ R.slots ∧ P a D fV fC b A z a₁ A₁.U) (fun A₁ _ v₁ B₁ => E a D fV fC A v₁ A₁.U B₁.U ∧ B₁.locs = A₁.locs ++ [⟨a, fC.slot⟩, ⟨a, fV.slot⟩] ∧ B₁.cells = A₁.cells + 1 ∧ B₁.slots = A₁.slots + A.slots.size) :=
  (law l a D fV fC b A z).pays htab hfr (by omega)
end New1
end StrChars
namespace StrChars.Road
open Jvm Sem ClassFile Op Lib Jvm.Stand Jvm.Free Jvm.Free.XT
open Jvm.Lib.Cold (StaticIs)
abbrev ST : String := "java/lang/String"
/-- every table word that New1's law asks, flat -/
abbrev words : List Jvm.Cond := [.code New1.yN New1.yB 2 none, .initialized ST, .methodLink ST 27 New4.yN, .instanceMethod New4.yN,
  .code New4.yN New4.yB 6 none, .fieldLink ST 38 ST "COMPACT_STRINGS" "Z", .laysFinal ST ST "value" "[B", .fieldLink ST 9 ST "value" "[B", .laysFinal ST ST "coder" "B", .fieldLink ST 15 ST "coder" "B",
  .methodLink ST 1 Lib.objectInit, .instanceMethod Lib.objectInit, .code Lib.objectInit ⟨#[0xb1]⟩ 1 none, .methodLink ST 177 Cmp3.yN, .static Cmp3.yN, .methodLink ST 47 CodL.yN, .static CodL.yN,
  .code Cmp3.yN Cmp3.yB 6 (some (.array .byte)), .initialized U16, .arrayClass .byte, .methodLink U16 115 Cmp5.yN, .static Cmp5.yN, .code Cmp5.yN Cmp5.yB 7 (some .int), .code CodL.yN CodL.yB 2 (some .byte)]
theorem tab_of {a : Array Value} {s : State} (h : ∀ w ∈ words, w.before a s = true) : New1.tab.before a s = true := by
  have h5 : Cmp5.tab.before a s = true := unparts (wk h (.code Cmp5.yN Cmp5.yB 7 (some .int))) (wks h (.initialized Cmp5.yN.cls :: Cmp5.site))
  have hc : CodL.tab.before a s = true := unparts (wk h (.code CodL.yN CodL.yB 2 (some .byte))) (wks h (.initialized CodL.yN.cls :: CodL.site))
  have q5 : ∀ w ∈ Cmp5.tab :: words, w.before a s = true := fun w hw => (List.mem_cons.mp hw).elim (fun e => e ▸ h5) (h w)
  have h3 : Cmp3.tab.before a s = true := unparts (wk q5 (.code Cmp3.yN Cmp3.yB 6 (some (.array .byte)))) (wks q5 (.initialized Cmp3.yN.cls :: Cmp3.site))
  have q3 : ∀ w ∈ Cmp3.tab :: CodL.tab :: words, w.before a s = true := fun w hw => (List.mem_cons.mp hw).elim (fun e => e ▸ h3) fun hw => (List.mem_cons.mp hw).elim (fun e => e ▸ hc) (h w)
  have h4 : New4.tab.before a s = true := unparts (wk q3 (.code New4.yN New4.yB 6 none)) (wks q3 (.initialized New4.yN.cls :: New4.site))
  have q4 : ∀ w ∈ New4.tab :: words, w.before a s = true := fun w hw => (List.mem_cons.mp hw).elim (fun e => e ▸ h4) (h w)
  exact unparts (wk q4 (.code New1.yN New1.yB 2 none)) (wks q4 (.initialized New1.yN.cls :: New1.site))
/-- the words ride from the start Z to the walk's own state -/
theorem moved {Z s : State} {a0 args : Array Value} (hZ : Z.Warmed39 s.vm) (hw : ∀ d ∈ words, d.before a0 Z = true) : ∀ d ∈ words, d.before args s = true := fun d hd => by
  have q := hw d hd
  have t : ∀ d ∈ words, d = .arrayClass .byte ∨ (d.onTables && d.keepsFace) = true := by decide +kernel
  rcases t d hd with rfl | t
  · exact RoadKit.mvA hZ q
  · exact RoadKit.mv hZ q t
/-- WHAT COMES BACK, over the tables of the start Z: h the heap at the call, h' behind it -/
def Q (Z : State) (x : Addr) (A : Cell) (h : Heap) (v : Option Value) (h' : Heap) (L : List Loc) : Prop := v = none ∧ (∀ y ∈ L, y.base = x) ∧ RoadKit.Keep h h' [x] ∧ h'.size = h.size + 1 ∧ RoadKit.Exa Z h' x ST ∧ RoadKit.Fld Z h' x ST "value" "[B" (.ref h.size) ∧ RoadKit.Fld Z h' x ST "coder" "B" (.int 0) ∧
  (∃ V : Cell, RoadKit.Arr Z h' h.size V .byte ∧ V.vm = .none ∧ Z.vm.findClass "[B" = some V.cls ∧ V.slots.size = A.slots.size ∧ ∀ j, j < A.slots.size → V.slots[j]? = some (.int (lo8 (cv A j)))) ∧
  ∀ (O n d : String) (w : Value), RoadKit.Fld Z h x O n d w → RoadKit.slotOf Z O n d ≠ RoadKit.slotOf Z ST "value" "[B" → RoadKit.slotOf Z O n d ≠ RoadKit.slotOf Z ST "coder" "B" → RoadKit.Fld Z h' x O n d w
/-- **new String(chars) AT A CALL, IN THE ROAD'S FORM**: for specialBack behind newO: x the fresh String, b the char[] with the cell A -/
theorem back {p : Program} {l : Launch} {e : Env} {R : Room} {s : State} {args : Array Value} {below : List Frame} {len W : Nat} {Z : State} {a0 : Array Value} {h : Heap} (hZ : Z.Warmed39 s.vm) (hw : ∀ d ∈ words, d.before a0 Z = true) {kI : Nat} (wi : (Jvm.Cond.instantiable ST kI).before a0 Z = true)
    {x b : Addr} {A : Cell} {z : Int32} {v0 c0 : Value} (E : RoadKit.Exa Z h x ST) (V : RoadKit.Fld Z h x ST "value" "[B" v0) (C : RoadKit.Fld Z h x ST "coder" "B" c0) (K : RoadKit.Arr Z h b A .char) (hty : Typed .char A) (S : RoadKit.Sta Z h ST "COMPACT_STRINGS" "Z" (.int z)) (hz : ¬ z = 0)
    (l0 : 0 < A.slots.size) (l2 : A.slots.size ≤ 536870912) (hp : ∀ i, i < A.slots.size → ¬ 255 < cv A i) (hfr : 4 ≤ R.frames) (hlo : W + 65 ≤ R.locals) :
    Back l R p e below s args New1.yN len W (fun P a => a = #[.ref x, .ref b] ∧ P.U.heap = h ∧ P.cells + 1 ≤ R.cells ∧ P.slots + A.slots.size ≤ R.slots)
      (fun P _ v B => ∃ L, Q Z x A h v B.U.heap L ∧ B.locs = P.locs ++ L ∧ B.cells = P.cells + 1 ∧ B.slots = P.slots + A.slots.size) := by
  intro m meth c P g ig mk a X hg hsize hdg hW hn hp'
  obtain ⟨rfl, rfl, r1, r2⟩ := hp'
  have al : Z.vm.Alike P.U.vm := hZ.alike.trans X.warmed.alike
  obtain ⟨D, cfV, kV, iV, fV, hD, gV, stV, knV, obV, asV, slV⟩ := id V
  obtain ⟨D', cfC, kC, iC, fC, hD', gC, stC, -, -, asC, slC⟩ := id C
  cases hD.symm.trans hD'
  obtain ⟨D2, kD, e1, e2, e3, e4, e5⟩ := id E
  cases hD.symm.trans e1
  obtain ⟨c2, k2, i1, i2, i3, -⟩ := Cond.instantiable_spec wi
  cases e2.symm.trans i1
  cases e3.symm.trans i2
  obtain ⟨kU, u1, u2⟩ := al.2.2 _ _ e3
  have hB : Blank ST x D P.U := ⟨hD, ⟨knV, fun q hq => by rw [hq] at obV; cases obV⟩, by rw [al.findClass]; exact e2, kU, u1, by rw [u2]; exact i3, by rw [u2]; exact e5 i3⟩
  have F1 : Found ST "value" "[B" fV P.U := ⟨SBG.found_only al ⟨cfV, kV, iV, gV⟩, stV⟩
  have F2 : Found ST "coder" "B" fC P.U := ⟨SBG.found_only al ⟨cfC, kC, iC, gC⟩, stC⟩
  have hA : Ch b A P.U := ⟨⟨K.1, State.isArrayOf_alike al K.2.1, K.2.2, by omega⟩, hty⟩
  have hS : StaticIs P.U ST "COMPACT_STRINGS" "Z" (.int z) := by
    obtain ⟨cfS, iS, kS, fS, st, cS, t1, t2, t3, t4, t5, t6, t7⟩ := S
    exact StaticIs.there (s := { Z with heap := P.U.heap }) ⟨cfS, iS, kS, fS, st, cS, t1, t2, t3, t4, t5, (fun q => by rw [q] at t6; cases t6), t7⟩ al rfl
  obtain ⟨v, B, X', ⟨⟨hv, E', V', q1, q2, q3, q4, q5, q6, q7, q8, q9, q10, q11⟩, hl, hc, hs⟩, st⟩ := New1.pays x D fV fC b A z (tab_of (moved hZ hw)) hfr hlo m meth c P g ig mk _ X hg hsize hdg hW hn ⟨r1, r2, rfl, hB, F1, F2, hA, hS, hz, l0, l2, hp⟩
  have al' : Z.vm.Alike B.U.vm := hZ.alike.trans X'.warmed.alike
  have hsz : E'.slots.size = D.slots.size := by
    obtain ⟨-, -, -, kB, w1, w2, w3⟩ := q1
    obtain ⟨kB', y1, y2⟩ := al'.2.2 _ _ e3
    rw [q2.2.1] at w1
    cases w1.symm.trans y1
    rw [w3, e5 i3, y2]
  refine ⟨v, B, X', ⟨_, ⟨hv, ?_, ⟨by omega, fun y cy hy hn' => q10 y cy (by simpa using hn') hy, fun y cy hy => ?_⟩, q11, ⟨E', _, q1.1, by rw [q2.2.1]; exact e2, by rw [q2.2.1]; exact e3, by rw [q2.1]; exact obV, fun _ => by rw [hsz]; exact e5 i3⟩,
    ⟨E', cfV, kV, iV, fV, q1.1, gV, stV, by rw [q2.1]; exact knV, by rw [q2.1]; exact obV, by rw [q2.2.1]; exact asV, q3⟩, ⟨E', cfC, kC, iC, fC, q1.1, gC, stC, by rw [q2.1]; exact knV, by rw [q2.1]; exact obV, by rw [q2.2.1]; exact asC, q4⟩,
    ⟨V', ⟨q5.1, State.isArrayOf_alike al'.symm q5.2.1, q5.2.2.1⟩, q6, by rw [← al'.findClass]; exact q7, q8, fun j hj => by have := q9 j hj; rwa [Nat.zero_add] at this⟩, fun O n d w F n1 n2 => ?_⟩, hl, hc, hs⟩, st⟩
  · intro y hy
    simp only [List.mem_cons, List.not_mem_nil, or_false] at hy
    rcases hy with rfl | rfl <;> rfl
  · by_cases q : y = x
    · subst q
      cases hD.symm.trans hy
      exact ⟨E', q1.1, q2.2.1, q2.1, hsz⟩
    · exact ⟨cy, q10 y cy q hy, rfl, rfl, rfl⟩
  · obtain ⟨D3, cf, k, i, f, g1, g2, g3, g4, g5, g6, g7⟩ := F
    cases hD.symm.trans g1
    simp only [RoadKit.slotOf, g2, gV, gC, Option.map_some, Option.getD_some] at n1 n2
    exact ⟨E', cf, k, i, f, q1.1, g2, g3, by rw [q2.1]; exact g4, by rw [q2.1]; exact g5, by rw [q2.2.1]; exact g6, by rw [q2.2.2 f.slot (by simp [n1, n2])]; exact g7⟩
end StrChars.Road
namespace StrChars.Road
open Jvm Sem ClassFile Op Lib Jvm.Stand Jvm.Free Jvm.Free.XT
/-- WHAT COMES BACK, the byte[] as a list of values -/
def QA (Z : State) (x : Addr) (zn : Int32) (cs : List Int32) (h : Heap) (v : Option Value) (h' : Heap) (L : List Loc) : Prop := v = none ∧ (∀ y ∈ L, y.base = x) ∧ RoadKit.Keep h h' [x] ∧ h'.size = h.size + 1 ∧ RoadKit.Exa Z h' x ST ∧ RoadKit.Fld Z h' x ST "value" "[B" (.ref h.size) ∧ RoadKit.Fld Z h' x ST "coder" "B" (.int 0) ∧
  (∃ kb, Z.vm.findClass "[B" = some kb ∧ RoadKit.Arv Z h' h.size kb .byte zn (cs.map fun c => .int (lo8 c)) (.int 0)) ∧
  ∀ (O n d : String) (w : Value), RoadKit.Fld Z h x O n d w → RoadKit.slotOf Z O n d ≠ RoadKit.slotOf Z ST "value" "[B" → RoadKit.slotOf Z O n d ≠ RoadKit.slotOf Z ST "coder" "B" → RoadKit.Fld Z h' x O n d w
/-- **new String(chars) AT A CALL, THE ARRAYS AS LISTS**: the char[] at b holds cs, not empty, no char above 255 -/
theorem backArv {p : Program} {l : Launch} {e : Env} {R : Room} {s : State} {args : Array Value} {below : List Frame} {len W : Nat} {Z : State} {a0 : Array Value} {h : Heap} (hZ : Z.Warmed39 s.vm) (hw : ∀ d ∈ words, d.before a0 Z = true) {kI : Nat} (wi : (Jvm.Cond.instantiable ST kI).before a0 Z = true)
    {x b : Addr} {k : ClassId} {zn z : Int32} {cs : List Int32} {dv v0 c0 : Value} (E : RoadKit.Exa Z h x ST) (V : RoadKit.Fld Z h x ST "value" "[B" v0) (C : RoadKit.Fld Z h x ST "coder" "B" c0) (K : RoadKit.Arv Z h b k .char zn (cs.map Value.int) dv) (S : RoadKit.Sta Z h ST "COMPACT_STRINGS" "Z" (.int z)) (hz : ¬ z = 0)
    (hlen : zn.toNatClampNeg = cs.length) (h0 : 0 < cs.length) (hbig : cs.length ≤ 536870912) (hall : ∀ c ∈ cs, ¬ 255 < c) (hfr : 4 ≤ R.frames) (hlo : W + 65 ≤ R.locals) :
    Back l R p e below s args New1.yN len W (fun P a => a = #[.ref x, .ref b] ∧ P.U.heap = h ∧ P.cells + 1 ≤ R.cells ∧ P.slots + cs.length ≤ R.slots)
      (fun P _ v B => ∃ L, QA Z x zn cs h v B.U.heap L ∧ B.locs = P.locs ++ L ∧ B.cells = P.cells + 1 ∧ B.slots = P.slots + cs.length) := by
  obtain ⟨A, K1, K2, K3, K4, K5, K6⟩ := K
  have e : A.slots.size = cs.length := K3.trans hlen
  have hat : ∀ (i : Nat) (hi : i < cs.length), A.slots[i]? = some (.int cs[i]) := fun i hi => by rw [K5 i (by omega)]; simp [List.getD_eq_getElem?_getD, hi]
  have hcv : ∀ (i : Nat) (hi : i < cs.length), cv A i = cs[i] := fun i hi => by unfold cv; rw [hat i hi]
  have hty : Typed .char A := fun i v hv => by
    have hi : i < A.slots.size := (Array.getElem?_eq_some_iff.mp hv).1
    have q := K5 i hi
    rw [hv] at q
    rw [Option.some.inj q]
    exact K6 i hi
  refine Back.mono (back hZ hw wi E V C K1 hty S hz (by omega) (by omega) (fun i hi => by rw [hcv i (by omega)]; exact hall _ (List.getElem_mem _)) hfr hlo) (fun P a hp => ⟨hp.1, hp.2.1, hp.2.2.1, by rw [e]; exact hp.2.2.2⟩) (fun P a v B hp hq => ?_)
  obtain ⟨L, ⟨q1, q2, q3, q4, q5, q6, q7, ⟨V', v1, v2, v3, v4, v5⟩, q9⟩, hl, hc, hs⟩ := hq
  refine ⟨L, ⟨q1, q2, q3, q4, q5, q6, q7, ⟨V'.cls, v3, V', v1, rfl, by rw [v4, e, hlen], K4, fun i hi => ?_, fun i hi => ?_⟩, q9⟩, hl, hc, by rw [hs, e]⟩
  · have hi' : i < cs.length := by omega
    rw [v5 i (by omega), hcv i hi']; simp [List.getD_eq_getElem?_getD, hi']
  · have hi' : i < cs.length := by omega
    simp only [List.getD_eq_getElem?_getD, List.getElem?_map, List.getElem?_eq_getElem hi', Option.map_some, Option.getD_some]
    exact fits_lo8 _
end StrChars.Road
namespace StrChars.Road
open Jvm Sem ClassFile Op Lib Jvm.Stand Jvm.Free Jvm.Free.XT
/-- WHAT COMES BACK, in the writer's own shape -/
def QV (Z : State) (x : Addr) (N : Int32) (bs : List Int32) (h : Heap) (n0 : Nat) (v : Option Value) (h' : Heap) (L : List Loc) : Prop := v = none ∧ RoadKit.Fr n0 L ∧ RoadKit.Keep h h' [x] ∧ RoadKit.Exa Z h' x ST ∧ RoadKit.Fld Z h' x ST "coder" "B" (.int 0) ∧
  ∃ (t : Addr) (kb : ClassId), n0 ≤ t ∧ h.size ≤ t ∧ ¬ t = x ∧ RoadKit.Fld Z h' x ST "value" "[B" (.ref t) ∧ RoadKit.Arv Z h' t kb .byte N (bs.map Value.int) (.int 0)
/-- **new String(chars) AT A CALL, FOR THE WRITER**: a char[] of n known ints, each 0 to 255 -/
theorem backV {p : Program} {l : Launch} {e : Env} {R : Room} {s : State} {args : Array Value} {below : List Frame} {len W : Nat} {Z : State} {a0 : Array Value} {h : Heap} (hZ : Z.Warmed39 s.vm) (hw : ∀ d ∈ words, d.before a0 Z = true) {kI : Nat} (wi : (Jvm.Cond.instantiable ST kI).before a0 Z = true)
    {x b : Addr} {kC : ClassId} {cs bs : List Int32} {d v0 c0 : Value} {z N : Int32} {n n0 : Nat} (hx0 : n0 ≤ x) (hh0 : n0 ≤ h.size) (E : RoadKit.Exa Z h x ST) (V : RoadKit.Fld Z h x ST "value" "[B" v0) (C : RoadKit.Fld Z h x ST "coder" "B" c0) (K : RoadKit.Arv Z h b kC .char N (cs.map Value.int) d) (S : RoadKit.Sta Z h ST "COMPACT_STRINGS" "Z" (.int z)) (hz : ¬ z = 0)
    (hn : cs.length = n) (hN : N = Int32.ofNat n) (l0 : 0 < n) (l2 : n ≤ 4000) (hp : ∀ c ∈ cs, ¬ c < 0 ∧ ¬ (255 : Int32) < c) (hb : bs = cs.map (fun c => c.toInt8.toInt32)) (hfr : 4 ≤ R.frames) (hlo : W + 65 ≤ R.locals) :
    Back l R p e below s args (⟨"java/lang/String", "<init>", "([C)V"⟩ : MethodName) len W (fun P a => a = #[.ref x, .ref b] ∧ P.U.heap = h ∧ P.cells + 1 ≤ R.cells ∧ P.slots + n ≤ R.slots)
      (fun P _ v B => ∃ L, QV Z x N bs h n0 v B.U.heap L ∧ B.locs = P.locs ++ L ∧ B.cells = P.cells + 1 ∧ B.slots = P.slots + n) := by
  subst hn hN hb
  refine Back.mono (backArv hZ hw wi E V C K S hz (n32 (by omega)) l0 (by omega) (fun c hc => (hp c hc).2) hfr hlo) (fun P a hp => hp) (fun P a v B hp hq => ?_)
  obtain ⟨L, ⟨q1, q2, q3, q4, q5, q6, q7, ⟨kb, v1, v2⟩, q9⟩, hl, hc, hs⟩ := hq
  exact ⟨L, ⟨q1, fun y hy => by rw [q2 y hy]; exact hx0, q3, q5, q7, h.size, kb, hh0, Nat.le_refl _, Nat.ne_of_gt E.lt, q6, by rw [List.map_map]; exact v2⟩, hl, hc, hs⟩
end StrChars.Road
end Jvm.Pilot.@@N@@

namespace Jvm.Pilot.@@N@@
open Jvm Jvm.ClassFile Sem Op Lib Jvm.Free Jvm.Stand Jvm.LawKit Jvm.RoadKit Bundle Jvm.Pilot.@@N@@.Jvm.D
theorem pd_0 : parseMethodDescriptor "()V" = some ⟨[], none⟩ := by decide +kernel
theorem pd_1 : parseMethodDescriptor "([C)V" = some ⟨[(.array .char)], none⟩ := by decide +kernel
theorem pd_2 : parseMethodDescriptor "(I)Lcom/example/bingli/bingli/conformance/DataElementFormat$Kind;" = some ⟨[.int], some (.object "com/example/bingli/bingli/conformance/DataElementFormat$Kind")⟩ := by decide +kernel
theorem pd_3 : parseMethodDescriptor "(Ljava/lang/String;Lcom/example/bingli/bingli/conformance/DataElementFormat$Kind;III)V" = some ⟨[(.object "java/lang/String"), (.object "com/example/bingli/bingli/conformance/DataElementFormat$Kind"), .int, .int, .int], none⟩ := by decide +kernel
theorem pd_4 : parseMethodDescriptor "(Lcom/example/bingli/bingli/conformance/DataElementFormat;)Z" = some ⟨[(.object "com/example/bingli/bingli/conformance/DataElementFormat")], some .boolean⟩ := by decide +kernel
theorem d7_0 : decode method_2_code 0 = .ok (.iload_n 0, 1) := by decide +kernel
theorem d7_1 : decode method_2_code 1 = .ok (.ifCond .ne 7, 3) := by decide +kernel
theorem d7_4 : decode method_2_code 4 = .ok (.getstatic 7, 3) := by decide +kernel
theorem d7_7 : decode method_2_code 7 = .ok (.areturn, 1) := by decide +kernel
theorem d7_8 : decode method_2_code 8 = .ok (.iload_n 0, 1) := by decide +kernel
theorem d7_9 : decode method_2_code 9 = .ok (.iconst 1, 1) := by decide +kernel
theorem d7_10 : decode method_2_code 10 = .ok (.if_icmp .ne 7, 3) := by decide +kernel
theorem d7_13 : decode method_2_code 13 = .ok (.getstatic 13, 3) := by decide +kernel
theorem d7_16 : decode method_2_code 16 = .ok (.areturn, 1) := by decide +kernel
theorem d7_17 : decode method_2_code 17 = .ok (.iload_n 0, 1) := by decide +kernel
theorem d7_18 : decode method_2_code 18 = .ok (.iconst 2, 1) := by decide +kernel
theorem d7_19 : decode method_2_code 19 = .ok (.if_icmp .ne 7, 3) := by decide +kernel
theorem d7_22 : decode method_2_code 22 = .ok (.getstatic 16, 3) := by decide +kernel
theorem d7_25 : decode method_2_code 25 = .ok (.areturn, 1) := by decide +kernel
theorem d7_26 : decode method_2_code 26 = .ok (.iload_n 0, 1) := by decide +kernel
theorem d7_27 : decode method_2_code 27 = .ok (.iconst 3, 1) := by decide +kernel
theorem d7_28 : decode method_2_code 28 = .ok (.if_icmp .ne 7, 3) := by decide +kernel
theorem d7_31 : decode method_2_code 31 = .ok (.getstatic 19, 3) := by decide +kernel
theorem d7_34 : decode method_2_code 34 = .ok (.areturn, 1) := by decide +kernel
theorem d7_35 : decode method_2_code 35 = .ok (.iload_n 0, 1) := by decide +kernel
theorem d7_36 : decode method_2_code 36 = .ok (.iconst 4, 1) := by decide +kernel
theorem d7_37 : decode method_2_code 37 = .ok (.if_icmp .ne 7, 3) := by decide +kernel
theorem d7_40 : decode method_2_code 40 = .ok (.getstatic 22, 3) := by decide +kernel
theorem d7_43 : decode method_2_code 43 = .ok (.areturn, 1) := by decide +kernel
theorem d7_44 : decode method_2_code 44 = .ok (.iload_n 0, 1) := by decide +kernel
theorem d7_45 : decode method_2_code 45 = .ok (.iconst 5, 1) := by decide +kernel
theorem d7_46 : decode method_2_code 46 = .ok (.if_icmp .ne 7, 3) := by decide +kernel
theorem d7_49 : decode method_2_code 49 = .ok (.getstatic 25, 3) := by decide +kernel
theorem d7_52 : decode method_2_code 52 = .ok (.areturn, 1) := by decide +kernel
theorem d7_53 : decode method_2_code 53 = .ok (.getstatic 28, 3) := by decide +kernel
theorem d7_56 : decode method_2_code 56 = .ok (.areturn, 1) := by decide +kernel
theorem pn_7 : plainName "com/example/bingli/bingli/conformance/DataElementFormatSameAsPinLaw" = true := by first | (simp [plainName, overriddenIn]; done) | decide +kernel
theorem ef_7 (m : MethodId) (p1 : Int32) : entryFrame m #[(.int p1)] 1 = mkF m 0 #[.val (.int p1)] [] := by first | (simp [entryFrame, mkF, argsToLocals, Value.category]; done) | rfl
def rv7 (p1 : Int32) (w0 : Addr) (w1 : Addr) (w2 : Addr) (w3 : Addr) (w4 : Addr) (w5 : Addr) (w6 : Addr) : Addr :=
  if p1 = 0 then w0 else if p1 = (1 : Int32) then w1 else if p1 = (2 : Int32) then w2 else if p1 = (3 : Int32) then w3 else if p1 = (4 : Int32) then w4 else if p1 = (5 : Int32) then w5 else w6
def Q7 (Z : State) (p1 : Int32) (w0 : Addr) (w1 : Addr) (w2 : Addr) (w3 : Addr) (w4 : Addr) (w5 : Addr) (w6 : Addr) (h0 : Heap) (n0 : Nat) (v : Option Value) (h : Heap) (L : List Loc) : Prop := v = some (.ref (rv7 p1 w0 w1 w2 w3 w4 w5 w6)) ∧ Fr n0 L ∧ h = h0
set_option maxRecDepth 65536 in
set_option maxHeartbeats 40000000 in
theorem rm7 (l : Launch) (Z : State) (a0 : Array Value) (hw : ∀ d ∈ tables_1, d.before a0 Z = true) (ws : List Jvm.Cond) (p1 : Int32) (w0 : Addr) (w1 : Addr) (w2 : Addr) (w3 : Addr) (w4 : Addr) (w5 : Addr) (w6 : Addr) (h0 : Heap) (n0 : Nat) (Z0 : n0 ≤ h0.size) (OLD : Old Z n0 h0) (S_LETTERS : Sta Z Z.heap "com/example/bingli/bingli/conformance/DataElementFormat$Kind" "LETTERS" "Lcom/example/bingli/bingli/conformance/DataElementFormat$Kind;" (.ref w0)) (S_TEXT : Sta Z Z.heap "com/example/bingli/bingli/conformance/DataElementFormat$Kind" "TEXT" "Lcom/example/bingli/bingli/conformance/DataElementFormat$Kind;" (.ref w1)) (S_DIGITS : Sta Z Z.heap "com/example/bingli/bingli/conformance/DataElementFormat$Kind" "DIGITS" "Lcom/example/bingli/bingli/conformance/DataElementFormat$Kind;" (.ref w2)) (S_DECIMAL : Sta Z Z.heap "com/example/bingli/bingli/conformance/DataElementFormat$Kind" "DECIMAL" "Lcom/example/bingli/bingli/conformance/DataElementFormat$Kind;" (.ref w3)) (S_DATE : Sta Z Z.heap "com/example/bingli/bingli/conformance/DataElementFormat$Kind" "DATE" "Lcom/example/bingli/bingli/conformance/DataElementFormat$Kind;" (.ref w4)) (S_DATE_TIME : Sta Z Z.heap "com/example/bingli/bingli/conformance/DataElementFormat$Kind" "DATE_TIME" "Lcom/example/bingli/bingli/conformance/DataElementFormat$Kind;" (.ref w5)) (S_LOGICAL : Sta Z Z.heap "com/example/bingli/bingli/conformance/DataElementFormat$Kind" "LOGICAL" "Lcom/example/bingli/bingli/conformance/DataElementFormat$Kind;" (.ref w6)) :
    MetFree l (⟨"com/example/bingli/bingli/conformance/DataElementFormatSameAsPinLaw", "kind", "(I)Lcom/example/bingli/bingli/conformance/DataElementFormat$Kind;"⟩ : MethodName) (head1 (Jvm.Cond.code (⟨"com/example/bingli/bingli/conformance/DataElementFormatSameAsPinLaw", "kind", "(I)Lcom/example/bingli/bingli/conformance/DataElementFormat$Kind;"⟩ : MethodName) method_2_code 1 (some (.object "com/example/bingli/bingli/conformance/DataElementFormat$Kind")) :: ws) ({ frames := 0, cells := 0, slots := 0, locals := 0 } : Room)) (fun a U => a = #[(.int p1)] ∧ Z.Warmed39 U.vm ∧ U.heap = h0) (fun _ _ _ _ _ => True) (fun _ U oo U' => ∃ v L, oo = .returned v ∧ Q7 Z p1 w0 w1 w2 w3 w4 w5 w6 h0 n0 v U'.heap L ∧ FrameEnd U oo U' L ({ frames := 0, cells := 0, slots := 0, locals := 0 } : Room).cells ({ frames := 0, cells := 0, slots := 0, locals := 0 } : Room).slots) := by
  refine MetFree.of_bodySF (plainFor_of_name pn_7) hisR ?_
  intro p e s m args below meth c s₁ Bd hml0 hP hK
  obtain ⟨rfl, hZ, hh⟩ := hP
  have hx := Bd.exec
  have hby := Bd.bytes
  have hml : c.maxLocals = 1 := hml0
  have hown : s.vm.findClass "com/example/bingli/bingli/conformance/DataElementFormatSameAsPinLaw" = some m.cls := findClass_of_methodNamed Bd.named
  have hnm := (name_of_methodNamed Bd.named Bd.method).1
  have X0 : Stand p l e ({ frames := 0, cells := 0, slots := 0, locals := 0 } : Room) s m #[(.int p1)] below meth c s₁ [] 0 0 := Stand.of_body Bd
  have e0 : s₁.heap = h0 := by rw [← hh, Bd.state]; rfl
  have N0 := Fr.nil n0
  have K0 : Keep h0 h0 [] := Keep.refl _ _
  have pre0 : ∀ tg, Steps p.tables e below (s₁.setTop (mkF m 0 #[.val (.int p1)] [])) tg → Steps p.tables e below (s₁.setTop (entryFrame m #[(.int p1)] 1)) tg := fun tg k => castTop (ef_7 m p1) k
  have st2 : ∀ tg, Steps p.tables e below (s₁.setTop (mkF m 1 #[.val (.int p1)] [(.int p1)])) tg → Steps p.tables e below (s₁.setTop (mkF m 0 #[.val (.int p1)] [])) tg := by
    intro tg kt
    show Steps p.tables e below (s₁.setTop (mkF m 0 #[.val (.int p1)] [])) tg
    refine XS.iloadN X0.here hx rfl (hb hby d7_0) rfl ?_
    exact kt
  by_cases hc1_1 : p1 = 0
  · -- pc 1: p1 = 0
    have st3 : ∀ tg, Steps p.tables e below (s₁.setTop (mkF m 4 #[.val (.int p1)] [])) tg → Steps p.tables e below (s₁.setTop (mkF m 1 #[.val (.int p1)] [(.int p1)])) tg := by
      intro tg kt
      show Steps p.tables e below (s₁.setTop (mkF m 1 #[.val (.int p1)] [(.int p1)])) tg
      refine XS.ifNo X0.here hx rfl (hb hby d7_1) rfl (XT.i0_ne_f hc1_1) ?_
      exact kt
    obtain ⟨T4, X4, e4, st4⟩ := getS2 X0 hx hZ hown (host := "") (Or.inl (hw _ (List.mem_of_getElem? (i := 37) rfl))) Via.refl e0 (Sta.ext OLD.2 S_LETTERS) (g := (mkF m 4 #[.val (.int p1)] [])) rfl (hb hby d7_4)
    obtain ⟨fs, hr, hrun, hended, hW, hsame⟩ := X4.leave (v := some (.ref w0)) (fun h => by rw [Bd.returns] at h; cases h)
    refine ⟨_, _, pre0 _ ?_, hrun, hended, _, _, rfl, ?_, ⟨_, rfl⟩, hW, hsame.mono (by decide) (by decide)⟩
    · refine st2 _ ?_
      refine st3 _ ?_
      show Steps p.tables e below (s₁.setTop (mkF m 4 #[.val (.int p1)] [])) _
      refine st4 _ ?_
      show Steps p.tables e below (T4.setTop (mkF m 7 #[.val (.int p1)] [(.ref w0)])) _
      exact retOut X4 hx Bd.returns rfl (Or.inr (Or.inr (Or.inr (Or.inr ⟨rfl, rfl, rfl⟩)))) (hb hby d7_7) hr
    · show Q7 Z p1 w0 w1 w2 w3 w4 w5 w6 h0 n0 _ T4.heap _
      rw [e4]
      refine ⟨?_, N0, rfl⟩
      simp only [rv7, if_pos hc1_1]
  · -- pc 1: not p1 = 0
    have st6 : ∀ tg, Steps p.tables e below (s₁.setTop (mkF m 10 #[.val (.int p1)] [(.int (1 : Int32)), (.int p1)])) tg → Steps p.tables e below (s₁.setTop (mkF m 1 #[.val (.int p1)] [(.int p1)])) tg := by
      intro tg kt
      show Steps p.tables e below (s₁.setTop (mkF m 1 #[.val (.int p1)] [(.int p1)])) tg
      refine XS.ifYes X0.here hx rfl (pc0 := 1) (pc' := 8) rfl (hb hby d7_1) rfl (XT.i0_ne_t hc1_1) (by decide) (by decide) ?_
      show Steps p.tables e below (s₁.setTop (mkF m 8 #[.val (.int p1)] [])) tg
      refine XS.iloadN X0.here hx rfl (hb hby d7_8) rfl ?_
      show Steps p.tables e below (s₁.setTop (mkF m 9 #[.val (.int p1)] [(.int p1)])) tg
      refine XS.iconst X0.here hx rfl (hb hby d7_9) ?_
      exact kt
    by_cases hc10_5 : p1 = (1 : Int32)
    · -- pc 10: p1 = (1 : Int32)
      have st7 : ∀ tg, Steps p.tables e below (s₁.setTop (mkF m 13 #[.val (.int p1)] [])) tg → Steps p.tables e below (s₁.setTop (mkF m 10 #[.val (.int p1)] [(.int (1 : Int32)), (.int p1)])) tg := by
        intro tg kt
        show Steps p.tables e below (s₁.setTop (mkF m 10 #[.val (.int p1)] [(.int (1 : Int32)), (.int p1)])) tg
        refine XS.icmpNo X0.here hx rfl (hb hby d7_10) rfl (XT.ii_ne_f hc10_5) ?_
        exact kt
      obtain ⟨T8, X8, e8, st8⟩ := getS2 X0 hx hZ hown (host := "") (Or.inl (hw _ (List.mem_of_getElem? (i := 74) rfl))) Via.refl e0 (Sta.ext OLD.2 S_TEXT) (g := (mkF m 13 #[.val (.int p1)] [])) rfl (hb hby d7_13)
      obtain ⟨fs, hr, hrun, hended, hW, hsame⟩ := X8.leave (v := some (.ref w1)) (fun h => by rw [Bd.returns] at h; cases h)
      refine ⟨_, _, pre0 _ ?_, hrun, hended, _, _, rfl, ?_, ⟨_, rfl⟩, hW, hsame.mono (by decide) (by decide)⟩
      · refine st2 _ ?_
        refine st6 _ ?_
        refine st7 _ ?_
        show Steps p.tables e below (s₁.setTop (mkF m 13 #[.val (.int p1)] [])) _
        refine st8 _ ?_
        show Steps p.tables e below (T8.setTop (mkF m 16 #[.val (.int p1)] [(.ref w1)])) _
        exact retOut X8 hx Bd.returns rfl (Or.inr (Or.inr (Or.inr (Or.inr ⟨rfl, rfl, rfl⟩)))) (hb hby d7_16) hr
      · show Q7 Z p1 w0 w1 w2 w3 w4 w5 w6 h0 n0 _ T8.heap _
        rw [e8]
        refine ⟨?_, N0, rfl⟩
        simp only [rv7, if_neg hc1_1, if_pos hc10_5]
    · -- pc 10: not p1 = (1 : Int32)
      have st10 : ∀ tg, Steps p.tables e below (s₁.setTop (mkF m 19 #[.val (.int p1)] [(.int (2 : Int32)), (.int p1)])) tg → Steps p.tables e below (s₁.setTop (mkF m 10 #[.val (.int p1)] [(.int (1 : Int32)), (.int p1)])) tg := by
        intro tg kt
        show Steps p.tables e below (s₁.setTop (mkF m 10 #[.val (.int p1)] [(.int (1 : Int32)), (.int p1)])) tg
        refine XS.icmpYes X0.here hx rfl (pc0 := 10) (pc' := 17) rfl (hb hby d7_10) rfl (XT.ii_ne_t hc10_5) (by decide) (by decide) ?_
        show Steps p.tables e below (s₁.setTop (mkF m 17 #[.val (.int p1)] [])) tg
        refine XS.iloadN X0.here hx rfl (hb hby d7_17) rfl ?_
        show Steps p.tables e below (s₁.setTop (mkF m 18 #[.val (.int p1)] [(.int p1)])) tg
        refine XS.iconst X0.here hx rfl (hb hby d7_18) ?_
        exact kt
      by_cases hc19_9 : p1 = (2 : Int32)
      · -- pc 19: p1 = (2 : Int32)
        have st11 : ∀ tg, Steps p.tables e below (s₁.setTop (mkF m 22 #[.val (.int p1)] [])) tg → Steps p.tables e below (s₁.setTop (mkF m 19 #[.val (.int p1)] [(.int (2 : Int32)), (.int p1)])) tg := by
          intro tg kt
          show Steps p.tables e below (s₁.setTop (mkF m 19 #[.val (.int p1)] [(.int (2 : Int32)), (.int p1)])) tg
          refine XS.icmpNo X0.here hx rfl (hb hby d7_19) rfl (XT.ii_ne_f hc19_9) ?_
          exact kt
        obtain ⟨T12, X12, e12, st12⟩ := getS2 X0 hx hZ hown (host := "") (Or.inl (hw _ (List.mem_of_getElem? (i := 66) rfl))) Via.refl e0 (Sta.ext OLD.2 S_DIGITS) (g := (mkF m 22 #[.val (.int p1)] [])) rfl (hb hby d7_22)
        obtain ⟨fs, hr, hrun, hended, hW, hsame⟩ := X12.leave (v := some (.ref w2)) (fun h => by rw [Bd.returns] at h; cases h)
        refine ⟨_, _, pre0 _ ?_, hrun, hended, _, _, rfl, ?_, ⟨_, rfl⟩, hW, hsame.mono (by decide) (by decide)⟩
        · refine st2 _ ?_
          refine st6 _ ?_
          refine st10 _ ?_
          refine st11 _ ?_
          show Steps p.tables e below (s₁.setTop (mkF m 22 #[.val (.int p1)] [])) _
          refine st12 _ ?_
          show Steps p.tables e below (T12.setTop (mkF m 25 #[.val (.int p1)] [(.ref w2)])) _
          exact retOut X12 hx Bd.returns rfl (Or.inr (Or.inr (Or.inr (Or.inr ⟨rfl, rfl, rfl⟩)))) (hb hby d7_25) hr
        · show Q7 Z p1 w0 w1 w2 w3 w4 w5 w6 h0 n0 _ T12.heap _
          rw [e12]
          refine ⟨?_, N0, rfl⟩
          simp only [rv7, if_neg hc1_1, if_neg hc10_5, if_pos hc19_9]
      · -- pc 19: not p1 = (2 : Int32)
        have st14 : ∀ tg, Steps p.tables e below (s₁.setTop (mkF m 28 #[.val (.int p1)] [(.int (3 : Int32)), (.int p1)])) tg → Steps p.tables e below (s₁.setTop (mkF m 19 #[.val (.int p1)] [(.int (2 : Int32)), (.int p1)])) tg := by
          intro tg kt
          show Steps p.tables e below (s₁.setTop (mkF m 19 #[.val (.int p1)] [(.int (2 : Int32)), (.int p1)])) tg
          refine XS.icmpYes X0.here hx rfl (pc0 := 19) (pc' := 26) rfl (hb hby d7_19) rfl (XT.ii_ne_t hc19_9) (by decide) (by decide) ?_
          show Steps p.tables e below (s₁.setTop (mkF m 26 #[.val (.int p1)] [])) tg
          refine XS.iloadN X0.here hx rfl (hb hby d7_26) rfl ?_
          show Steps p.tables e below (s₁.setTop (mkF m 27 #[.val (.int p1)] [(.int p1)])) tg
          refine XS.iconst X0.here hx rfl (hb hby d7_27) ?_
          exact kt
        by_cases hc28_13 : p1 = (3 : Int32)
        · -- pc 28: p1 = (3 : Int32)
          have st15 : ∀ tg, Steps p.tables e below (s₁.setTop (mkF m 31 #[.val (.int p1)] [])) tg → Steps p.tables e below (s₁.setTop (mkF m 28 #[.val (.int p1)] [(.int (3 : Int32)), (.int p1)])) tg := by
            intro tg kt
            show Steps p.tables e below (s₁.setTop (mkF m 28 #[.val (.int p1)] [(.int (3 : Int32)), (.int p1)])) tg
            refine XS.icmpNo X0.here hx rfl (hb hby d7_28) rfl (XT.ii_ne_f hc28_13) ?_
            exact kt
          obtain ⟨T16, X16, e16, st16⟩ := getS2 X0 hx hZ hown (host := "") (Or.inl (hw _ (List.mem_of_getElem? (i := 68) rfl))) Via.refl e0 (Sta.ext OLD.2 S_DECIMAL) (g := (mkF m 31 #[.val (.int p1)] [])) rfl (hb hby d7_31)
          obtain ⟨fs, hr, hrun, hended, hW, hsame⟩ := X16.leave (v := some (.ref w3)) (fun h => by rw [Bd.returns] at h; cases h)
          refine ⟨_, _, pre0 _ ?_, hrun, hended, _, _, rfl, ?_, ⟨_, rfl⟩, hW, hsame.mono (by decide) (by decide)⟩
          · refine st2 _ ?_
            refine st6 _ ?_
            refine st10 _ ?_
            refine st14 _ ?_
            refine st15 _ ?_
            show Steps p.tables e below (s₁.setTop (mkF m 31 #[.val (.int p1)] [])) _
            refine st16 _ ?_
            show Steps p.tables e below (T16.setTop (mkF m 34 #[.val (.int p1)] [(.ref w3)])) _
            exact retOut X16 hx Bd.returns rfl (Or.inr (Or.inr (Or.inr (Or.inr ⟨rfl, rfl, rfl⟩)))) (hb hby d7_34) hr
          · show Q7 Z p1 w0 w1 w2 w3 w4 w5 w6 h0 n0 _ T16.heap _
            rw [e16]
            refine ⟨?_, N0, rfl⟩
            simp only [rv7, if_neg hc1_1, if_neg hc10_5, if_neg hc19_9, if_pos hc28_13]
        · -- pc 28: not p1 = (3 : Int32)
          have st18 : ∀ tg, Steps p.tables e below (s₁.setTop (mkF m 37 #[.val (.int p1)] [(.int (4 : Int32)), (.int p1)])) tg → Steps p.tables e below (s₁.setTop (mkF m 28 #[.val (.int p1)] [(.int (3 : Int32)), (.int p1)])) tg := by
            intro tg kt
            show Steps p.tables e below (s₁.setTop (mkF m 28 #[.val (.int p1)] [(.int (3 : Int32)), (.int p1)])) tg
            refine XS.icmpYes X0.here hx rfl (pc0 := 28) (pc' := 35) rfl (hb hby d7_28) rfl (XT.ii_ne_t hc28_13) (by decide) (by decide) ?_
            show Steps p.tables e below (s₁.setTop (mkF m 35 #[.val (.int p1)] [])) tg
            refine XS.iloadN X0.here hx rfl (hb hby d7_35) rfl ?_
            show Steps p.tables e below (s₁.setTop (mkF m 36 #[.val (.int p1)] [(.int p1)])) tg
            refine XS.iconst X0.here hx rfl (hb hby d7_36) ?_
            exact kt
          by_cases hc37_17 : p1 = (4 : Int32)
          · -- pc 37: p1 = (4 : Int32)
            have st19 : ∀ tg, Steps p.tables e below (s₁.setTop (mkF m 40 #[.val (.int p1)] [])) tg → Steps p.tables e below (s₁.setTop (mkF m 37 #[.val (.int p1)] [(.int (4 : Int32)), (.int p1)])) tg := by
              intro tg kt
              show Steps p.tables e below (s₁.setTop (mkF m 37 #[.val (.int p1)] [(.int (4 : Int32)), (.int p1)])) tg
              refine XS.icmpNo X0.here hx rfl (hb hby d7_37) rfl (XT.ii_ne_f hc37_17) ?_
              exact kt
            obtain ⟨T20, X20, e20, st20⟩ := getS2 X0 hx hZ hown (host := "") (Or.inl (hw _ (List.mem_of_getElem? (i := 64) rfl))) Via.refl e0 (Sta.ext OLD.2 S_DATE) (g := (mkF m 40 #[.val (.int p1)] [])) rfl (hb hby d7_40)
            obtain ⟨fs, hr, hrun, hended, hW, hsame⟩ := X20.leave (v := some (.ref w4)) (fun h => by rw [Bd.returns] at h; cases h)
            refine ⟨_, _, pre0 _ ?_, hrun, hended, _, _, rfl, ?_, ⟨_, rfl⟩, hW, hsame.mono (by decide) (by decide)⟩
            · refine st2 _ ?_
              refine st6 _ ?_
              refine st10 _ ?_
              refine st14 _ ?_
              refine st18 _ ?_
              refine st19 _ ?_
              show Steps p.tables e below (s₁.setTop (mkF m 40 #[.val (.int p1)] [])) _
              refine st20 _ ?_
              show Steps p.tables e below (T20.setTop (mkF m 43 #[.val (.int p1)] [(.ref w4)])) _
              exact retOut X20 hx Bd.returns rfl (Or.inr (Or.inr (Or.inr (Or.inr ⟨rfl, rfl, rfl⟩)))) (hb hby d7_43) hr
            · show Q7 Z p1 w0 w1 w2 w3 w4 w5 w6 h0 n0 _ T20.heap _
              rw [e20]
              refine ⟨?_, N0, rfl⟩
              simp only [rv7, if_neg hc1_1, if_neg hc10_5, if_neg hc19_9, if_neg hc28_13, if_pos hc37_17]
          · -- pc 37: not p1 = (4 : Int32)
            have st22 : ∀ tg, Steps p.tables e below (s₁.setTop (mkF m 46 #[.val (.int p1)] [(.int (5 : Int32)), (.int p1)])) tg → Steps p.tables e below (s₁.setTop (mkF m 37 #[.val (.int p1)] [(.int (4 : Int32)), (.int p1)])) tg := by
              intro tg kt
              show Steps p.tables e below (s₁.setTop (mkF m 37 #[.val (.int p1)] [(.int (4 : Int32)), (.int p1)])) tg
              refine XS.icmpYes X0.here hx rfl (pc0 := 37) (pc' := 44) rfl (hb hby d7_37) rfl (XT.ii_ne_t hc37_17) (by decide) (by decide) ?_
              show Steps p.tables e below (s₁.setTop (mkF m 44 #[.val (.int p1)] [])) tg
              refine XS.iloadN X0.here hx rfl (hb hby d7_44) rfl ?_
              show Steps p.tables e below (s₁.setTop (mkF m 45 #[.val (.int p1)] [(.int p1)])) tg
              refine XS.iconst X0.here hx rfl (hb hby d7_45) ?_
              exact kt
            by_cases hc46_21 : p1 = (5 : Int32)
            · -- pc 46: p1 = (5 : Int32)
              have st23 : ∀ tg, Steps p.tables e below (s₁.setTop (mkF m 49 #[.val (.int p1)] [])) tg → Steps p.tables e below (s₁.setTop (mkF m 46 #[.val (.int p1)] [(.int (5 : Int32)), (.int p1)])) tg := by
                intro tg kt
                show Steps p.tables e below (s₁.setTop (mkF m 46 #[.val (.int p1)] [(.int (5 : Int32)), (.int p1)])) tg
                refine XS.icmpNo X0.here hx rfl (hb hby d7_46) rfl (XT.ii_ne_f hc46_21) ?_
                exact kt
              obtain ⟨T24, X24, e24, st24⟩ := getS2 X0 hx hZ hown (host := "") (Or.inl (hw _ (List.mem_of_getElem? (i := 72) rfl))) Via.refl e0 (Sta.ext OLD.2 S_DATE_TIME) (g := (mkF m 49 #[.val (.int p1)] [])) rfl (hb hby d7_49)
              obtain ⟨fs, hr, hrun, hended, hW, hsame⟩ := X24.leave (v := some (.ref w5)) (fun h => by rw [Bd.returns] at h; cases h)
              refine ⟨_, _, pre0 _ ?_, hrun, hended, _, _, rfl, ?_, ⟨_, rfl⟩, hW, hsame.mono (by decide) (by decide)⟩
              · refine st2 _ ?_
                refine st6 _ ?_
                refine st10 _ ?_
                refine st14 _ ?_
                refine st18 _ ?_
                refine st22 _ ?_
                refine st23 _ ?_
                show Steps p.tables e below (s₁.setTop (mkF m 49 #[.val (.int p1)] [])) _
                refine st24 _ ?_
                show Steps p.tables e below (T24.setTop (mkF m 52 #[.val (.int p1)] [(.ref w5)])) _
                exact retOut X24 hx Bd.returns rfl (Or.inr (Or.inr (Or.inr (Or.inr ⟨rfl, rfl, rfl⟩)))) (hb hby d7_52) hr
              · show Q7 Z p1 w0 w1 w2 w3 w4 w5 w6 h0 n0 _ T24.heap _
                rw [e24]
                refine ⟨?_, N0, rfl⟩
                simp only [rv7, if_neg hc1_1, if_neg hc10_5, if_neg hc19_9, if_neg hc28_13, if_neg hc37_17, if_pos hc46_21]
            · -- pc 46: not p1 = (5 : Int32)
              have st25 : ∀ tg, Steps p.tables e below (s₁.setTop (mkF m 53 #[.val (.int p1)] [])) tg → Steps p.tables e below (s₁.setTop (mkF m 46 #[.val (.int p1)] [(.int (5 : Int32)), (.int p1)])) tg := by
                intro tg kt
                show Steps p.tables e below (s₁.setTop (mkF m 46 #[.val (.int p1)] [(.int (5 : Int32)), (.int p1)])) tg
                refine XS.icmpYes X0.here hx rfl (pc0 := 46) (pc' := 53) rfl (hb hby d7_46) rfl (XT.ii_ne_t hc46_21) (by decide) (by decide) ?_
                exact kt
              obtain ⟨T26, X26, e26, st26⟩ := getS2 X0 hx hZ hown (host := "") (Or.inl (hw _ (List.mem_of_getElem? (i := 70) rfl))) Via.refl e0 (Sta.ext OLD.2 S_LOGICAL) (g := (mkF m 53 #[.val (.int p1)] [])) rfl (hb hby d7_53)
              obtain ⟨fs, hr, hrun, hended, hW, hsame⟩ := X26.leave (v := some (.ref w6)) (fun h => by rw [Bd.returns] at h; cases h)
              refine ⟨_, _, pre0 _ ?_, hrun, hended, _, _, rfl, ?_, ⟨_, rfl⟩, hW, hsame.mono (by decide) (by decide)⟩
              · refine st2 _ ?_
                refine st6 _ ?_
                refine st10 _ ?_
                refine st14 _ ?_
                refine st18 _ ?_
                refine st22 _ ?_
                refine st25 _ ?_
                show Steps p.tables e below (s₁.setTop (mkF m 53 #[.val (.int p1)] [])) _
                refine st26 _ ?_
                show Steps p.tables e below (T26.setTop (mkF m 56 #[.val (.int p1)] [(.ref w6)])) _
                exact retOut X26 hx Bd.returns rfl (Or.inr (Or.inr (Or.inr (Or.inr ⟨rfl, rfl, rfl⟩)))) (hb hby d7_56) hr
              · show Q7 Z p1 w0 w1 w2 w3 w4 w5 w6 h0 n0 _ T26.heap _
                rw [e26]
                refine ⟨?_, N0, rfl⟩
                simp only [rv7, if_neg hc1_1, if_neg hc10_5, if_neg hc19_9, if_neg hc28_13, if_neg hc37_17, if_neg hc46_21]
theorem d9_0 : decode jdk_30_method_1_code 0 = .ok (.aload_n 0, 1) := by decide +kernel
theorem d9_1 : decode jdk_30_method_1_code 1 = .ok (.invokespecial 1, 3) := by decide +kernel
theorem d9_4 : decode jdk_30_method_1_code 4 = .ok (.return_, 1) := by decide +kernel
theorem pn_9 : plainName "java/lang/Record" = true := by first | (simp [plainName, overriddenIn]; done) | decide +kernel
theorem ef_9 (m : MethodId) (a1 : Addr) : entryFrame m #[(.ref a1)] 1 = mkF m 0 #[.val (.ref a1)] [] := by first | (simp [entryFrame, mkF, argsToLocals, Value.category]; done) | rfl
def Q9 (Z : State) (a1 : Addr) (h0 : Heap) (n0 : Nat) (v : Option Value) (h : Heap) (L : List Loc) : Prop := v = none ∧ Fr n0 L ∧ h = h0
set_option maxRecDepth 65536 in
set_option maxHeartbeats 40000000 in
theorem rm9 (l : Launch) (Z : State) (a0 : Array Value) (hw : ∀ d ∈ tables_1, d.before a0 Z = true) (ws : List Jvm.Cond) (a1 : Addr) (h0 : Heap) (n0 : Nat) (Z0 : n0 ≤ h0.size) :
    MetFree l (⟨"java/lang/Record", "<init>", "()V"⟩ : MethodName) (head1 (Jvm.Cond.code (⟨"java/lang/Record", "<init>", "()V"⟩ : MethodName) jdk_30_method_1_code 1 none :: ws) ({ frames := 1, cells := 0, slots := 0, locals := 12 } : Room)) (fun a U => a = #[(.ref a1)] ∧ Z.Warmed39 U.vm ∧ U.heap = h0) (fun _ _ _ _ _ => True) (fun _ U oo U' => ∃ v L, oo = .returned v ∧ Q9 Z a1 h0 n0 v U'.heap L ∧ FrameEnd U oo U' L ({ frames := 1, cells := 0, slots := 0, locals := 12 } : Room).cells ({ frames := 1, cells := 0, slots := 0, locals := 12 } : Room).slots) := by
  refine MetFree.of_bodySF (plainFor_of_name pn_9) hisR ?_
  intro p e s m args below meth c s₁ Bd hml0 hP hK
  obtain ⟨rfl, hZ, hh⟩ := hP
  have hx := Bd.exec
  have hby := Bd.bytes
  have hml : c.maxLocals = 1 := hml0
  have hown : s.vm.findClass "java/lang/Record" = some m.cls := findClass_of_methodNamed Bd.named
  have hnm := (name_of_methodNamed Bd.named Bd.method).1
  have X0 : Stand p l e ({ frames := 1, cells := 0, slots := 0, locals := 12 } : Room) s m #[(.ref a1)] below meth c s₁ [] 0 0 := Stand.of_body Bd
  have e0 : s₁.heap = h0 := by rw [← hh, Bd.state]; rfl
  have N0 := Fr.nil n0
  have K0 : Keep h0 h0 [] := Keep.refl _ _
  have pre0 : ∀ tg, Steps p.tables e below (s₁.setTop (mkF m 0 #[.val (.ref a1)] [])) tg → Steps p.tables e below (s₁.setTop (entryFrame m #[(.ref a1)] 1)) tg := fun tg k => castTop (ef_9 m a1) k
  have st1 : ∀ tg, Steps p.tables e below (s₁.setTop (mkF m 1 #[.val (.ref a1)] [(.ref a1)])) tg → Steps p.tables e below (s₁.setTop (mkF m 0 #[.val (.ref a1)] [])) tg := by
    intro tg kt
    show Steps p.tables e below (s₁.setTop (mkF m 0 #[.val (.ref a1)] [])) tg
    refine XS.aloadN X0.here hx rfl (hb hby d9_0) rfl rfl ?_
    exact kt
  obtain ⟨T2, X2, e2, st2⟩ := initO X0 hx hZ hown (hw _ (List.mem_of_getElem? (i := 48) rfl)) (hw _ (List.mem_of_getElem? (i := 15) rfl)) (hw _ (List.mem_of_getElem? (i := 16) rfl)) e0 (g := (mkF m 1 #[.val (.ref a1)] [(.ref a1)])) rfl (by rw [hml]; rfl) rfl (hb hby d9_1) (by decide) (W := 0) (by show 2 * 0 + _ ≤ _; exact Nat.le_of_eq rfl) (by decide)
  obtain ⟨fs, hr, hrun, hended, hW, hsame⟩ := X2.leave (v := none) (fun _ => rfl)
  refine ⟨_, _, pre0 _ ?_, hrun, hended, _, _, rfl, ?_, ⟨_, rfl⟩, hW, hsame.mono (by decide) (by decide)⟩
  · refine st1 _ ?_
    show Steps p.tables e below (s₁.setTop (mkF m 1 #[.val (.ref a1)] [(.ref a1)])) _
    refine st2 _ ?_
    show Steps p.tables e below (T2.setTop (mkF m 4 #[.val (.ref a1)] [])) _
    exact X2.returnOut hx Bd.returns (hb hby d9_4) hr
  · show Q9 Z a1 h0 n0 _ T2.heap _
    rw [e2]
    exact ⟨rfl, N0, rfl⟩
theorem d8_0 : decode prog_82_method_1_code 0 = .ok (.aload_n 0, 1) := by decide +kernel
theorem d8_1 : decode prog_82_method_1_code 1 = .ok (.invokespecial 1, 3) := by decide +kernel
theorem d8_4 : decode prog_82_method_1_code 4 = .ok (.aload_n 0, 1) := by decide +kernel
theorem d8_5 : decode prog_82_method_1_code 5 = .ok (.aload_n 1, 1) := by decide +kernel
theorem d8_6 : decode prog_82_method_1_code 6 = .ok (.putfield 7, 3) := by decide +kernel
theorem d8_9 : decode prog_82_method_1_code 9 = .ok (.aload_n 0, 1) := by decide +kernel
theorem d8_10 : decode prog_82_method_1_code 10 = .ok (.aload_n 2, 1) := by decide +kernel
theorem d8_11 : decode prog_82_method_1_code 11 = .ok (.putfield 13, 3) := by decide +kernel
theorem d8_14 : decode prog_82_method_1_code 14 = .ok (.aload_n 0, 1) := by decide +kernel
theorem d8_15 : decode prog_82_method_1_code 15 = .ok (.iload_n 3, 1) := by decide +kernel
theorem d8_16 : decode prog_82_method_1_code 16 = .ok (.putfield 17, 3) := by decide +kernel
theorem d8_19 : decode prog_82_method_1_code 19 = .ok (.aload_n 0, 1) := by decide +kernel
theorem d8_20 : decode prog_82_method_1_code 20 = .ok (.iload 4, 2) := by decide +kernel
theorem d8_22 : decode prog_82_method_1_code 22 = .ok (.putfield 21, 3) := by decide +kernel
theorem d8_25 : decode prog_82_method_1_code 25 = .ok (.aload_n 0, 1) := by decide +kernel
theorem d8_26 : decode prog_82_method_1_code 26 = .ok (.iload 5, 2) := by decide +kernel
theorem d8_28 : decode prog_82_method_1_code 28 = .ok (.putfield 24, 3) := by decide +kernel
theorem d8_31 : decode prog_82_method_1_code 31 = .ok (.return_, 1) := by decide +kernel
theorem pn_8 : plainName "com/example/bingli/bingli/conformance/DataElementFormat" = true := by first | (simp [plainName, overriddenIn]; done) | decide +kernel
theorem ef_8 (m : MethodId) (a1 : Addr) (a2 : Addr) (a3 : Addr) (p4 : Int32) (p5 : Int32) (p6 : Int32) : entryFrame m #[(.ref a1), (.ref a2), (.ref a3), (.int p4), (.int p5), (.int p6)] 6 = mkF m 0 #[.val (.ref a1), .val (.ref a2), .val (.ref a3), .val (.int p4), .val (.int p5), .val (.int p6)] [] := by first | (simp [entryFrame, mkF, argsToLocals, Value.category]; done) | rfl
def Q8 (Z : State) (a1 : Addr) (a2 : Addr) (a3 : Addr) (p4 : Int32) (p5 : Int32) (p6 : Int32) (h0 : Heap) (n0 : Nat) (v : Option Value) (h : Heap) (L : List Loc) : Prop := v = none ∧ Fr n0 L ∧ Keep h0 h [a1] ∧ Exa Z h a1 "com/example/bingli/bingli/conformance/DataElementFormat" ∧ Fld Z h a1 "com/example/bingli/bingli/conformance/DataElementFormat" "printed" "Ljava/lang/String;" (.ref a2) ∧ Fld Z h a1 "com/example/bingli/bingli/conformance/DataElementFormat" "kind" "Lcom/example/bingli/bingli/conformance/DataElementFormat$Kind;" (.ref a3) ∧ Fld Z h a1 "com/example/bingli/bingli/conformance/DataElementFormat" "minimum" "I" (.int p4) ∧ Fld Z h a1 "com/example/bingli/bingli/conformance/DataElementFormat" "maximum" "I" (.int p5) ∧ Fld Z h a1 "com/example/bingli/bingli/conformance/DataElementFormat" "scale" "I" (.int p6)
set_option maxRecDepth 65536 in
set_option maxHeartbeats 40000000 in
theorem rm8 (l : Launch) (Z : State) (a0 : Array Value) (hw : ∀ d ∈ tables_1, d.before a0 Z = true) (ws : List Jvm.Cond) (a1 : Addr) (a2 : Addr) (a3 : Addr) (p4 : Int32) (p5 : Int32) (p6 : Int32) (h0 : Heap) (n0 : Nat) (Z0 : n0 ≤ h0.size) (F_printed : Fld Z h0 a1 "com/example/bingli/bingli/conformance/DataElementFormat" "printed" "Ljava/lang/String;" .null) (F_kind : Fld Z h0 a1 "com/example/bingli/bingli/conformance/DataElementFormat" "kind" "Lcom/example/bingli/bingli/conformance/DataElementFormat$Kind;" .null) (F_minimum : Fld Z h0 a1 "com/example/bingli/bingli/conformance/DataElementFormat" "minimum" "I" (.int (0 : Int32))) (F_maximum : Fld Z h0 a1 "com/example/bingli/bingli/conformance/DataElementFormat" "maximum" "I" (.int (0 : Int32))) (F_scale : Fld Z h0 a1 "com/example/bingli/bingli/conformance/DataElementFormat" "scale" "I" (.int (0 : Int32))) (E_a1 : Exa Z h0 a1 "com/example/bingli/bingli/conformance/DataElementFormat") (g_a1 : n0 ≤ a1) :
    MetFree l (⟨"com/example/bingli/bingli/conformance/DataElementFormat", "<init>", "(Ljava/lang/String;Lcom/example/bingli/bingli/conformance/DataElementFormat$Kind;III)V"⟩ : MethodName) (head1 (Jvm.Cond.code (⟨"com/example/bingli/bingli/conformance/DataElementFormat", "<init>", "(Ljava/lang/String;Lcom/example/bingli/bingli/conformance/DataElementFormat$Kind;III)V"⟩ : MethodName) prog_82_method_1_code 6 none :: ws) ({ frames := 2, cells := 0, slots := 0, locals := 24 } : Room)) (fun a U => a = #[(.ref a1), (.ref a2), (.ref a3), (.int p4), (.int p5), (.int p6)] ∧ Z.Warmed39 U.vm ∧ U.heap = h0) (fun _ _ _ _ _ => True) (fun _ U oo U' => ∃ v L, oo = .returned v ∧ Q8 Z a1 a2 a3 p4 p5 p6 h0 n0 v U'.heap L ∧ FrameEnd U oo U' L ({ frames := 2, cells := 0, slots := 0, locals := 24 } : Room).cells ({ frames := 2, cells := 0, slots := 0, locals := 24 } : Room).slots) := by
  refine MetFree.of_bodySF (plainFor_of_name pn_8) hisR ?_
  intro p e s m args below meth c s₁ Bd hml0 hP hK
  obtain ⟨rfl, hZ, hh⟩ := hP
  have hx := Bd.exec
  have hby := Bd.bytes
  have hml : c.maxLocals = 6 := hml0
  have hown : s.vm.findClass "com/example/bingli/bingli/conformance/DataElementFormat" = some m.cls := findClass_of_methodNamed Bd.named
  have hnm := (name_of_methodNamed Bd.named Bd.method).1
  have X0 : Stand p l e ({ frames := 2, cells := 0, slots := 0, locals := 24 } : Room) s m #[(.ref a1), (.ref a2), (.ref a3), (.int p4), (.int p5), (.int p6)] below meth c s₁ [] 0 0 := Stand.of_body Bd
  have e0 : s₁.heap = h0 := by rw [← hh, Bd.state]; rfl
  have N0 := Fr.nil n0
  have K0 : Keep h0 h0 [a1] := Keep.refl _ _
  have pre0 : ∀ tg, Steps p.tables e below (s₁.setTop (mkF m 0 #[.val (.ref a1), .val (.ref a2), .val (.ref a3), .val (.int p4), .val (.int p5), .val (.int p6)] [])) tg → Steps p.tables e below (s₁.setTop (entryFrame m #[(.ref a1), (.ref a2), (.ref a3), (.int p4), (.int p5), (.int p6)] 6)) tg := fun tg k => castTop (ef_8 m a1 a2 a3 p4 p5 p6) k
  have st1 : ∀ tg, Steps p.tables e below (s₁.setTop (mkF m 1 #[.val (.ref a1), .val (.ref a2), .val (.ref a3), .val (.int p4), .val (.int p5), .val (.int p6)] [(.ref a1)])) tg → Steps p.tables e below (s₁.setTop (mkF m 0 #[.val (.ref a1), .val (.ref a2), .val (.ref a3), .val (.int p4), .val (.int p5), .val (.int p6)] [])) tg := by
    intro tg kt
    show Steps p.tables e below (s₁.setTop (mkF m 0 #[.val (.ref a1), .val (.ref a2), .val (.ref a3), .val (.int p4), .val (.int p5), .val (.int p6)] [])) tg
    refine XS.aloadN X0.here hx rfl (hb hby d8_0) rfl rfl ?_
    exact kt
  obtain ⟨_, _, ⟨T2, L2, k2, n2⟩, -, X2, ⟨Lc2, hQ2, l2, y2, z2⟩, st2⟩ := X0.specialBack hx (y := (⟨"java/lang/Record", "<init>", "()V"⟩ : MethodName)) rfl hown (mvT hZ (hw _ (List.mem_of_getElem? (i := 43) rfl))) (mvT hZ (hw _ (List.mem_of_getElem? (i := 44) rfl))) (mvT hZ (hw _ (List.mem_of_getElem? (i := 47) rfl))) (by decide) (backOf (W := 0) (rm9 l Z a0 hw [] a1 h0 n0 Z0) hZ (hw _ (List.mem_of_getElem? (i := 47) rfl)) (hw _ (List.mem_of_getElem? (i := 46) rfl)) (by decide) (by decide)) (g := (mkF m 1 #[.val (.ref a1), .val (.ref a2), .val (.ref a3), .val (.int p4), .val (.int p5), .val (.int p6)] [(.ref a1)])) rfl (by rw [hml]; rfl) (Steps.refl _) (a := a1) (argsL := []) (rest := []) (lenOf pd_0 rfl) rfl (by show 2 * 0 + _ ≤ _; exact Nat.le_of_eq rfl) (hb hby d8_1) (fun _ _ => ⟨rfl, e0, (by decide : 0 + 0 ≤ _), (by decide : 0 + 0 ≤ _)⟩)
  dsimp only [Pt.U, Pt.locs, Pt.cells, Pt.slots] at X2 l2 y2 z2 st2 hQ2
  subst l2 y2 z2
  obtain ⟨rfl, N2q, e2⟩ := hQ2
  have N2 := Fr.app N0 N2q
  have st3 : ∀ tg, Steps p.tables e below (T2.setTop (mkF m 6 #[.val (.ref a1), .val (.ref a2), .val (.ref a3), .val (.int p4), .val (.int p5), .val (.int p6)] [(.ref a2), (.ref a1)])) tg → Steps p.tables e below (T2.setTop (mkF m 4 #[.val (.ref a1), .val (.ref a2), .val (.ref a3), .val (.int p4), .val (.int p5), .val (.int p6)] [])) tg := by
    intro tg kt
    show Steps p.tables e below (T2.setTop (mkF m 4 #[.val (.ref a1), .val (.ref a2), .val (.ref a3), .val (.int p4), .val (.int p5), .val (.int p6)] [])) tg
    refine XS.aloadN X2.here hx rfl (hb hby d8_4) rfl rfl ?_
    show Steps p.tables e below (T2.setTop (mkF m 5 #[.val (.ref a1), .val (.ref a2), .val (.ref a3), .val (.int p4), .val (.int p5), .val (.int p6)] [(.ref a1)])) tg
    refine XS.aloadN X2.here hx rfl (hb hby d8_5) rfl rfl ?_
    exact kt
  obtain ⟨T4, h4, X4, e4, W4, st4⟩ := putF X2 hx hZ hown (host := "") (Or.inl (hw _ (List.mem_of_getElem? (i := 49) rfl))) Via.refl e2 F_printed E_a1 (Or.inr ⟨(hw _ (List.mem_of_getElem? (i := 50) rfl)), rfl, hnm⟩) (hw _ (List.mem_of_getElem? (i := 2) rfl)) (ty := (.object "java/lang/String")) (by decide) rfl rfl (g := (mkF m 6 #[.val (.ref a1), .val (.ref a2), .val (.ref a3), .val (.int p4), .val (.int p5), .val (.int p6)] [(.ref a2), (.ref a1)])) rfl rfl (hb hby d8_6)
  have N4 := Fr.snoc X4 N2 g_a1
  have K4 : Keep h0 h4 [a1] := K0.wr W4 (Or.inl (List.mem_of_getElem? (i := 0) rfl))
  have Z4 : n0 ≤ h4.size := Nat.le_trans Z0 (Keep.of_wr W4).1
  have G5 : Exa Z h4 a1 "com/example/bingli/bingli/conformance/DataElementFormat" := E_a1.wr W4
  have G6 : Fld Z h4 a1 "com/example/bingli/bingli/conformance/DataElementFormat" "kind" "Lcom/example/bingli/bingli/conformance/DataElementFormat$Kind;" .null := F_kind.other W4 (Or.inr (slot_ne (Or.inr (hw _ (List.mem_of_getElem? (i := 52) rfl))) (Or.inr (hw _ (List.mem_of_getElem? (i := 50) rfl))) (by decide) (t := (.object "com/example/bingli/bingli/conformance/DataElementFormat$Kind")) (t' := (.object "java/lang/String")) (by decide) (by decide)))
  have G7 : Fld Z h4 a1 "com/example/bingli/bingli/conformance/DataElementFormat" "minimum" "I" (.int (0 : Int32)) := F_minimum.other W4 (Or.inr (slot_ne (Or.inr (hw _ (List.mem_of_getElem? (i := 54) rfl))) (Or.inr (hw _ (List.mem_of_getElem? (i := 50) rfl))) (by decide) (t := .int) (t' := (.object "java/lang/String")) (by decide) (by decide)))
  have G8 : Fld Z h4 a1 "com/example/bingli/bingli/conformance/DataElementFormat" "maximum" "I" (.int (0 : Int32)) := F_maximum.other W4 (Or.inr (slot_ne (Or.inr (hw _ (List.mem_of_getElem? (i := 56) rfl))) (Or.inr (hw _ (List.mem_of_getElem? (i := 50) rfl))) (by decide) (t := .int) (t' := (.object "java/lang/String")) (by decide) (by decide)))
  have G9 : Fld Z h4 a1 "com/example/bingli/bingli/conformance/DataElementFormat" "scale" "I" (.int (0 : Int32)) := F_scale.other W4 (Or.inr (slot_ne (Or.inr (hw _ (List.mem_of_getElem? (i := 58) rfl))) (Or.inr (hw _ (List.mem_of_getElem? (i := 50) rfl))) (by decide) (t := .int) (t' := (.object "java/lang/String")) (by decide) (by decide)))
  have G10 : Fld Z h4 a1 "com/example/bingli/bingli/conformance/DataElementFormat" "printed" "Ljava/lang/String;" (.ref a2) := F_printed.same W4
  have st11 : ∀ tg, Steps p.tables e below (T4.setTop (mkF m 11 #[.val (.ref a1), .val (.ref a2), .val (.ref a3), .val (.int p4), .val (.int p5), .val (.int p6)] [(.ref a3), (.ref a1)])) tg → Steps p.tables e below (T4.setTop (mkF m 9 #[.val (.ref a1), .val (.ref a2), .val (.ref a3), .val (.int p4), .val (.int p5), .val (.int p6)] [])) tg := by
    intro tg kt
    show Steps p.tables e below (T4.setTop (mkF m 9 #[.val (.ref a1), .val (.ref a2), .val (.ref a3), .val (.int p4), .val (.int p5), .val (.int p6)] [])) tg
    refine XS.aloadN X4.here hx rfl (hb hby d8_9) rfl rfl ?_
    show Steps p.tables e below (T4.setTop (mkF m 10 #[.val (.ref a1), .val (.ref a2), .val (.ref a3), .val (.int p4), .val (.int p5), .val (.int p6)] [(.ref a1)])) tg
    refine XS.aloadN X4.here hx rfl (hb hby d8_10) rfl rfl ?_
    exact kt
  obtain ⟨T12, h12, X12, e12, W12, st12⟩ := putF X4 hx hZ hown (host := "") (Or.inl (hw _ (List.mem_of_getElem? (i := 51) rfl))) Via.refl e4 G6 G5 (Or.inr ⟨(hw _ (List.mem_of_getElem? (i := 52) rfl)), rfl, hnm⟩) (hw _ (List.mem_of_getElem? (i := 2) rfl)) (ty := (.object "com/example/bingli/bingli/conformance/DataElementFormat$Kind")) (by decide) rfl rfl (g := (mkF m 11 #[.val (.ref a1), .val (.ref a2), .val (.ref a3), .val (.int p4), .val (.int p5), .val (.int p6)] [(.ref a3), (.ref a1)])) rfl rfl (hb hby d8_11)
  have N12 := Fr.snoc X12 N4 g_a1
  have K12 : Keep h0 h12 [a1] := K4.wr W12 (Or.inl (List.mem_of_getElem? (i := 0) rfl))
  have Z12 : n0 ≤ h12.size := Nat.le_trans Z4 (Keep.of_wr W12).1
  have G13 : Exa Z h12 a1 "com/example/bingli/bingli/conformance/DataElementFormat" := G5.wr W12
  have G14 : Fld Z h12 a1 "com/example/bingli/bingli/conformance/DataElementFormat" "minimum" "I" (.int (0 : Int32)) := G7.other W12 (Or.inr (slot_ne (Or.inr (hw _ (List.mem_of_getElem? (i := 54) rfl))) (Or.inr (hw _ (List.mem_of_getElem? (i := 52) rfl))) (by decide) (t := .int) (t' := (.object "com/example/bingli/bingli/conformance/DataElementFormat$Kind")) (by decide) (by decide)))
  have G15 : Fld Z h12 a1 "com/example/bingli/bingli/conformance/DataElementFormat" "maximum" "I" (.int (0 : Int32)) := G8.other W12 (Or.inr (slot_ne (Or.inr (hw _ (List.mem_of_getElem? (i := 56) rfl))) (Or.inr (hw _ (List.mem_of_getElem? (i := 52) rfl))) (by decide) (t := .int) (t' := (.object "com/example/bingli/bingli/conformance/DataElementFormat$Kind")) (by decide) (by decide)))
  have G16 : Fld Z h12 a1 "com/example/bingli/bingli/conformance/DataElementFormat" "scale" "I" (.int (0 : Int32)) := G9.other W12 (Or.inr (slot_ne (Or.inr (hw _ (List.mem_of_getElem? (i := 58) rfl))) (Or.inr (hw _ (List.mem_of_getElem? (i := 52) rfl))) (by decide) (t := .int) (t' := (.object "com/example/bingli/bingli/conformance/DataElementFormat$Kind")) (by decide) (by decide)))
  have G17 : Fld Z h12 a1 "com/example/bingli/bingli/conformance/DataElementFormat" "printed" "Ljava/lang/String;" (.ref a2) := G10.other W12 (Or.inr (slot_ne (Or.inr (hw _ (List.mem_of_getElem? (i := 50) rfl))) (Or.inr (hw _ (List.mem_of_getElem? (i := 52) rfl))) (by decide) (t := (.object "java/lang/String")) (t' := (.object "com/example/bingli/bingli/conformance/DataElementFormat$Kind")) (by decide) (by decide)))
  have G18 : Fld Z h12 a1 "com/example/bingli/bingli/conformance/DataElementFormat" "kind" "Lcom/example/bingli/bingli/conformance/DataElementFormat$Kind;" (.ref a3) := G6.same W12
  have st19 : ∀ tg, Steps p.tables e below (T12.setTop (mkF m 16 #[.val (.ref a1), .val (.ref a2), .val (.ref a3), .val (.int p4), .val (.int p5), .val (.int p6)] [(.int p4), (.ref a1)])) tg → Steps p.tables e below (T12.setTop (mkF m 14 #[.val (.ref a1), .val (.ref a2), .val (.ref a3), .val (.int p4), .val (.int p5), .val (.int p6)] [])) tg := by
    intro tg kt
    show Steps p.tables e below (T12.setTop (mkF m 14 #[.val (.ref a1), .val (.ref a2), .val (.ref a3), .val (.int p4), .val (.int p5), .val (.int p6)] [])) tg
    refine XS.aloadN X12.here hx rfl (hb hby d8_14) rfl rfl ?_
    show Steps p.tables e below (T12.setTop (mkF m 15 #[.val (.ref a1), .val (.ref a2), .val (.ref a3), .val (.int p4), .val (.int p5), .val (.int p6)] [(.ref a1)])) tg
    refine XS.iloadN X12.here hx rfl (hb hby d8_15) rfl ?_
    exact kt
  obtain ⟨T20, h20, X20, e20, W20, st20⟩ := putF X12 hx hZ hown (host := "") (Or.inl (hw _ (List.mem_of_getElem? (i := 53) rfl))) Via.refl e12 G14 G13 (Or.inr ⟨(hw _ (List.mem_of_getElem? (i := 54) rfl)), rfl, hnm⟩) (hw _ (List.mem_of_getElem? (i := 2) rfl)) (ty := .int) (by decide) rfl rfl (g := (mkF m 16 #[.val (.ref a1), .val (.ref a2), .val (.ref a3), .val (.int p4), .val (.int p5), .val (.int p6)] [(.int p4), (.ref a1)])) rfl rfl (hb hby d8_16)
  have N20 := Fr.snoc X20 N12 g_a1
  have K20 : Keep h0 h20 [a1] := K12.wr W20 (Or.inl (List.mem_of_getElem? (i := 0) rfl))
  have Z20 : n0 ≤ h20.size := Nat.le_trans Z12 (Keep.of_wr W20).1
  have G21 : Exa Z h20 a1 "com/example/bingli/bingli/conformance/DataElementFormat" := G13.wr W20
  have G22 : Fld Z h20 a1 "com/example/bingli/bingli/conformance/DataElementFormat" "maximum" "I" (.int (0 : Int32)) := G15.other W20 (Or.inr (slot_ne (Or.inr (hw _ (List.mem_of_getElem? (i := 56) rfl))) (Or.inr (hw _ (List.mem_of_getElem? (i := 54) rfl))) (by decide) (t := .int) (t' := .int) (by decide) (by decide)))
  have G23 : Fld Z h20 a1 "com/example/bingli/bingli/conformance/DataElementFormat" "scale" "I" (.int (0 : Int32)) := G16.other W20 (Or.inr (slot_ne (Or.inr (hw _ (List.mem_of_getElem? (i := 58) rfl))) (Or.inr (hw _ (List.mem_of_getElem? (i := 54) rfl))) (by decide) (t := .int) (t' := .int) (by decide) (by decide)))
  have G24 : Fld Z h20 a1 "com/example/bingli/bingli/conformance/DataElementFormat" "printed" "Ljava/lang/String;" (.ref a2) := G17.other W20 (Or.inr (slot_ne (Or.inr (hw _ (List.mem_of_getElem? (i := 50) rfl))) (Or.inr (hw _ (List.mem_of_getElem? (i := 54) rfl))) (by decide) (t := (.object "java/lang/String")) (t' := .int) (by decide) (by decide)))
  have G25 : Fld Z h20 a1 "com/example/bingli/bingli/conformance/DataElementFormat" "kind" "Lcom/example/bingli/bingli/conformance/DataElementFormat$Kind;" (.ref a3) := G18.other W20 (Or.inr (slot_ne (Or.inr (hw _ (List.mem_of_getElem? (i := 52) rfl))) (Or.inr (hw _ (List.mem_of_getElem? (i := 54) rfl))) (by decide) (t := (.object "com/example/bingli/bingli/conformance/DataElementFormat$Kind")) (t' := .int) (by decide) (by decide)))
  have G26 : Fld Z h20 a1 "com/example/bingli/bingli/conformance/DataElementFormat" "minimum" "I" (.int p4) := G14.same W20
  have st27 : ∀ tg, Steps p.tables e below (T20.setTop (mkF m 22 #[.val (.ref a1), .val (.ref a2), .val (.ref a3), .val (.int p4), .val (.int p5), .val (.int p6)] [(.int p5), (.ref a1)])) tg → Steps p.tables e below (T20.setTop (mkF m 19 #[.val (.ref a1), .val (.ref a2), .val (.ref a3), .val (.int p4), .val (.int p5), .val (.int p6)] [])) tg := by
    intro tg kt
    show Steps p.tables e below (T20.setTop (mkF m 19 #[.val (.ref a1), .val (.ref a2), .val (.ref a3), .val (.int p4), .val (.int p5), .val (.int p6)] [])) tg
    refine XS.aloadN X20.here hx rfl (hb hby d8_19) rfl rfl ?_
    show Steps p.tables e below (T20.setTop (mkF m 20 #[.val (.ref a1), .val (.ref a2), .val (.ref a3), .val (.int p4), .val (.int p5), .val (.int p6)] [(.ref a1)])) tg
    refine XS.iload X20.here hx rfl (hb hby d8_20) rfl ?_
    exact kt
  obtain ⟨T28, h28, X28, e28, W28, st28⟩ := putF X20 hx hZ hown (host := "") (Or.inl (hw _ (List.mem_of_getElem? (i := 55) rfl))) Via.refl e20 G22 G21 (Or.inr ⟨(hw _ (List.mem_of_getElem? (i := 56) rfl)), rfl, hnm⟩) (hw _ (List.mem_of_getElem? (i := 2) rfl)) (ty := .int) (by decide) rfl rfl (g := (mkF m 22 #[.val (.ref a1), .val (.ref a2), .val (.ref a3), .val (.int p4), .val (.int p5), .val (.int p6)] [(.int p5), (.ref a1)])) rfl rfl (hb hby d8_22)
  have N28 := Fr.snoc X28 N20 g_a1
  have K28 : Keep h0 h28 [a1] := K20.wr W28 (Or.inl (List.mem_of_getElem? (i := 0) rfl))
  have Z28 : n0 ≤ h28.size := Nat.le_trans Z20 (Keep.of_wr W28).1
  have G29 : Exa Z h28 a1 "com/example/bingli/bingli/conformance/DataElementFormat" := G21.wr W28
  have G30 : Fld Z h28 a1 "com/example/bingli/bingli/conformance/DataElementFormat" "scale" "I" (.int (0 : Int32)) := G23.other W28 (Or.inr (slot_ne (Or.inr (hw _ (List.mem_of_getElem? (i := 58) rfl))) (Or.inr (hw _ (List.mem_of_getElem? (i := 56) rfl))) (by decide) (t := .int) (t' := .int) (by decide) (by decide)))
  have G31 : Fld Z h28 a1 "com/example/bingli/bingli/conformance/DataElementFormat" "printed" "Ljava/lang/String;" (.ref a2) := G24.other W28 (Or.inr (slot_ne (Or.inr (hw _ (List.mem_of_getElem? (i := 50) rfl))) (Or.inr (hw _ (List.mem_of_getElem? (i := 56) rfl))) (by decide) (t := (.object "java/lang/String")) (t' := .int) (by decide) (by decide)))
  have G32 : Fld Z h28 a1 "com/example/bingli/bingli/conformance/DataElementFormat" "kind" "Lcom/example/bingli/bingli/conformance/DataElementFormat$Kind;" (.ref a3) := G25.other W28 (Or.inr (slot_ne (Or.inr (hw _ (List.mem_of_getElem? (i := 52) rfl))) (Or.inr (hw _ (List.mem_of_getElem? (i := 56) rfl))) (by decide) (t := (.object "com/example/bingli/bingli/conformance/DataElementFormat$Kind")) (t' := .int) (by decide) (by decide)))
  have G33 : Fld Z h28 a1 "com/example/bingli/bingli/conformance/DataElementFormat" "minimum" "I" (.int p4) := G26.other W28 (Or.inr (slot_ne (Or.inr (hw _ (List.mem_of_getElem? (i := 54) rfl))) (Or.inr (hw _ (List.mem_of_getElem? (i := 56) rfl))) (by decide) (t := .int) (t' := .int) (by decide) (by decide)))
  have G34 : Fld Z h28 a1 "com/example/bingli/bingli/conformance/DataElementFormat" "maximum" "I" (.int p5) := G22.same W28
  have st35 : ∀ tg, Steps p.tables e below (T28.setTop (mkF m 28 #[.val (.ref a1), .val (.ref a2), .val (.ref a3), .val (.int p4), .val (.int p5), .val (.int p6)] [(.int p6), (.ref a1)])) tg → Steps p.tables e below (T28.setTop (mkF m 25 #[.val (.ref a1), .val (.ref a2), .val (.ref a3), .val (.int p4), .val (.int p5), .val (.int p6)] [])) tg := by
    intro tg kt
    show Steps p.tables e below (T28.setTop (mkF m 25 #[.val (.ref a1), .val (.ref a2), .val (.ref a3), .val (.int p4), .val (.int p5), .val (.int p6)] [])) tg
    refine XS.aloadN X28.here hx rfl (hb hby d8_25) rfl rfl ?_
    show Steps p.tables e below (T28.setTop (mkF m 26 #[.val (.ref a1), .val (.ref a2), .val (.ref a3), .val (.int p4), .val (.int p5), .val (.int p6)] [(.ref a1)])) tg
    refine XS.iload X28.here hx rfl (hb hby d8_26) rfl ?_
    exact kt
  obtain ⟨T36, h36, X36, e36, W36, st36⟩ := putF X28 hx hZ hown (host := "") (Or.inl (hw _ (List.mem_of_getElem? (i := 57) rfl))) Via.refl e28 G30 G29 (Or.inr ⟨(hw _ (List.mem_of_getElem? (i := 58) rfl)), rfl, hnm⟩) (hw _ (List.mem_of_getElem? (i := 2) rfl)) (ty := .int) (by decide) rfl rfl (g := (mkF m 28 #[.val (.ref a1), .val (.ref a2), .val (.ref a3), .val (.int p4), .val (.int p5), .val (.int p6)] [(.int p6), (.ref a1)])) rfl rfl (hb hby d8_28)
  have N36 := Fr.snoc X36 N28 g_a1
  have K36 : Keep h0 h36 [a1] := K28.wr W36 (Or.inl (List.mem_of_getElem? (i := 0) rfl))
  have Z36 : n0 ≤ h36.size := Nat.le_trans Z28 (Keep.of_wr W36).1
  have G37 : Exa Z h36 a1 "com/example/bingli/bingli/conformance/DataElementFormat" := G29.wr W36
  have G38 : Fld Z h36 a1 "com/example/bingli/bingli/conformance/DataElementFormat" "printed" "Ljava/lang/String;" (.ref a2) := G31.other W36 (Or.inr (slot_ne (Or.inr (hw _ (List.mem_of_getElem? (i := 50) rfl))) (Or.inr (hw _ (List.mem_of_getElem? (i := 58) rfl))) (by decide) (t := (.object "java/lang/String")) (t' := .int) (by decide) (by decide)))
  have G39 : Fld Z h36 a1 "com/example/bingli/bingli/conformance/DataElementFormat" "kind" "Lcom/example/bingli/bingli/conformance/DataElementFormat$Kind;" (.ref a3) := G32.other W36 (Or.inr (slot_ne (Or.inr (hw _ (List.mem_of_getElem? (i := 52) rfl))) (Or.inr (hw _ (List.mem_of_getElem? (i := 58) rfl))) (by decide) (t := (.object "com/example/bingli/bingli/conformance/DataElementFormat$Kind")) (t' := .int) (by decide) (by decide)))
  have G40 : Fld Z h36 a1 "com/example/bingli/bingli/conformance/DataElementFormat" "minimum" "I" (.int p4) := G33.other W36 (Or.inr (slot_ne (Or.inr (hw _ (List.mem_of_getElem? (i := 54) rfl))) (Or.inr (hw _ (List.mem_of_getElem? (i := 58) rfl))) (by decide) (t := .int) (t' := .int) (by decide) (by decide)))
  have G41 : Fld Z h36 a1 "com/example/bingli/bingli/conformance/DataElementFormat" "maximum" "I" (.int p5) := G34.other W36 (Or.inr (slot_ne (Or.inr (hw _ (List.mem_of_getElem? (i := 56) rfl))) (Or.inr (hw _ (List.mem_of_getElem? (i := 58) rfl))) (by decide) (t := .int) (t' := .int) (by decide) (by decide)))
  have G42 : Fld Z h36 a1 "com/example/bingli/bingli/conformance/DataElementFormat" "scale" "I" (.int p6) := G30.same W36
  obtain ⟨fs, hr, hrun, hended, hW, hsame⟩ := X36.leave (v := none) (fun _ => rfl)
  refine ⟨_, _, pre0 _ ?_, hrun, hended, _, _, rfl, ?_, ⟨_, rfl⟩, hW, hsame.mono (by decide) (by decide)⟩
  · refine st1 _ ?_
    show Steps p.tables e below (s₁.setTop (mkF m 1 #[.val (.ref a1), .val (.ref a2), .val (.ref a3), .val (.int p4), .val (.int p5), .val (.int p6)] [(.ref a1)])) _
    refine st2.trans ?_
    refine st3 _ ?_
    show Steps p.tables e below (T2.setTop (mkF m 6 #[.val (.ref a1), .val (.ref a2), .val (.ref a3), .val (.int p4), .val (.int p5), .val (.int p6)] [(.ref a2), (.ref a1)])) _
    refine st4 _ ?_
    refine st11 _ ?_
    show Steps p.tables e below (T4.setTop (mkF m 11 #[.val (.ref a1), .val (.ref a2), .val (.ref a3), .val (.int p4), .val (.int p5), .val (.int p6)] [(.ref a3), (.ref a1)])) _
    refine st12 _ ?_
    refine st19 _ ?_
    show Steps p.tables e below (T12.setTop (mkF m 16 #[.val (.ref a1), .val (.ref a2), .val (.ref a3), .val (.int p4), .val (.int p5), .val (.int p6)] [(.int p4), (.ref a1)])) _
    refine st20 _ ?_
    refine st27 _ ?_
    show Steps p.tables e below (T20.setTop (mkF m 22 #[.val (.ref a1), .val (.ref a2), .val (.ref a3), .val (.int p4), .val (.int p5), .val (.int p6)] [(.int p5), (.ref a1)])) _
    refine st28 _ ?_
    refine st35 _ ?_
    show Steps p.tables e below (T28.setTop (mkF m 28 #[.val (.ref a1), .val (.ref a2), .val (.ref a3), .val (.int p4), .val (.int p5), .val (.int p6)] [(.int p6), (.ref a1)])) _
    refine st36 _ ?_
    show Steps p.tables e below (T36.setTop (mkF m 31 #[.val (.ref a1), .val (.ref a2), .val (.ref a3), .val (.int p4), .val (.int p5), .val (.int p6)] [])) _
    exact X36.returnOut hx Bd.returns (hb hby d8_31) hr
  · show Q8 Z a1 a2 a3 p4 p5 p6 h0 n0 _ T36.heap _
    rw [e36]
    exact ⟨rfl, N36, K36, G37, G38, G39, G40, G41, G42⟩
theorem d10_0 : decode prog_82_method_4_code 0 = .ok (.aload_n 0, 1) := by decide +kernel
theorem d10_1 : decode prog_82_method_4_code 1 = .ok (.getfield 13, 3) := by decide +kernel
theorem d10_4 : decode prog_82_method_4_code 4 = .ok (.aload_n 1, 1) := by decide +kernel
theorem d10_5 : decode prog_82_method_4_code 5 = .ok (.getfield 13, 3) := by decide +kernel
theorem d10_8 : decode prog_82_method_4_code 8 = .ok (.if_acmp .ne 40, 3) := by decide +kernel
theorem d10_11 : decode prog_82_method_4_code 11 = .ok (.aload_n 0, 1) := by decide +kernel
theorem d10_12 : decode prog_82_method_4_code 12 = .ok (.getfield 17, 3) := by decide +kernel
theorem d10_15 : decode prog_82_method_4_code 15 = .ok (.aload_n 1, 1) := by decide +kernel
theorem d10_16 : decode prog_82_method_4_code 16 = .ok (.getfield 17, 3) := by decide +kernel
theorem d10_19 : decode prog_82_method_4_code 19 = .ok (.if_icmp .ne 29, 3) := by decide +kernel
theorem d10_22 : decode prog_82_method_4_code 22 = .ok (.aload_n 0, 1) := by decide +kernel
theorem d10_23 : decode prog_82_method_4_code 23 = .ok (.getfield 21, 3) := by decide +kernel
theorem d10_26 : decode prog_82_method_4_code 26 = .ok (.aload_n 1, 1) := by decide +kernel
theorem d10_27 : decode prog_82_method_4_code 27 = .ok (.getfield 21, 3) := by decide +kernel
theorem d10_30 : decode prog_82_method_4_code 30 = .ok (.if_icmp .ne 18, 3) := by decide +kernel
theorem d10_33 : decode prog_82_method_4_code 33 = .ok (.aload_n 0, 1) := by decide +kernel
theorem d10_34 : decode prog_82_method_4_code 34 = .ok (.getfield 24, 3) := by decide +kernel
theorem d10_37 : decode prog_82_method_4_code 37 = .ok (.aload_n 1, 1) := by decide +kernel
theorem d10_38 : decode prog_82_method_4_code 38 = .ok (.getfield 24, 3) := by decide +kernel
theorem d10_41 : decode prog_82_method_4_code 41 = .ok (.if_icmp .ne 7, 3) := by decide +kernel
theorem d10_44 : decode prog_82_method_4_code 44 = .ok (.iconst 1, 1) := by decide +kernel
theorem d10_45 : decode prog_82_method_4_code 45 = .ok (.goto 4, 3) := by decide +kernel
theorem d10_48 : decode prog_82_method_4_code 48 = .ok (.iconst 0, 1) := by decide +kernel
theorem d10_49 : decode prog_82_method_4_code 49 = .ok (.ireturn, 1) := by decide +kernel
theorem pn_10 : plainName "com/example/bingli/bingli/conformance/DataElementFormat" = true := by first | (simp [plainName, overriddenIn]; done) | decide +kernel
theorem ef_10 (m : MethodId) (a1 : Addr) (a2 : Addr) : entryFrame m #[(.ref a1), (.ref a2)] 2 = mkF m 0 #[.val (.ref a1), .val (.ref a2)] [] := by first | (simp [entryFrame, mkF, argsToLocals, Value.category]; done) | rfl
def rv10 (a1 : Addr) (a2 : Addr) (k1 : Addr) (m1 : Int32) (x1 : Int32) (s1 : Int32) (k2 : Addr) (m2 : Int32) (x2 : Int32) (s2 : Int32) : Int32 :=
  if k1 = k2 then if m1 = m2 then if x1 = x2 then if s1 = s2 then (1 : Int32) else (0 : Int32) else (0 : Int32) else (0 : Int32) else (0 : Int32)
def Q10 (Z : State) (a1 : Addr) (a2 : Addr) (k1 : Addr) (m1 : Int32) (x1 : Int32) (s1 : Int32) (k2 : Addr) (m2 : Int32) (x2 : Int32) (s2 : Int32) (h0 : Heap) (n0 : Nat) (v : Option Value) (h : Heap) (L : List Loc) : Prop := v = some (.int (rv10 a1 a2 k1 m1 x1 s1 k2 m2 x2 s2)) ∧ Fr n0 L ∧ h = h0
set_option maxRecDepth 65536 in
set_option maxHeartbeats 40000000 in
theorem rm10 (l : Launch) (Z : State) (a0 : Array Value) (hw : ∀ d ∈ tables_1, d.before a0 Z = true) (ws : List Jvm.Cond) (a1 : Addr) (a2 : Addr) (k1 : Addr) (m1 : Int32) (x1 : Int32) (s1 : Int32) (k2 : Addr) (m2 : Int32) (x2 : Int32) (s2 : Int32) (h0 : Heap) (n0 : Nat) (Z0 : n0 ≤ h0.size) (Fkind1 : Fld Z h0 a1 "com/example/bingli/bingli/conformance/DataElementFormat" "kind" "Lcom/example/bingli/bingli/conformance/DataElementFormat$Kind;" (.ref k1)) (Fminimum1 : Fld Z h0 a1 "com/example/bingli/bingli/conformance/DataElementFormat" "minimum" "I" (.int m1)) (Fmaximum1 : Fld Z h0 a1 "com/example/bingli/bingli/conformance/DataElementFormat" "maximum" "I" (.int x1)) (Fscale1 : Fld Z h0 a1 "com/example/bingli/bingli/conformance/DataElementFormat" "scale" "I" (.int s1)) (Fkind2 : Fld Z h0 a2 "com/example/bingli/bingli/conformance/DataElementFormat" "kind" "Lcom/example/bingli/bingli/conformance/DataElementFormat$Kind;" (.ref k2)) (Fminimum2 : Fld Z h0 a2 "com/example/bingli/bingli/conformance/DataElementFormat" "minimum" "I" (.int m2)) (Fmaximum2 : Fld Z h0 a2 "com/example/bingli/bingli/conformance/DataElementFormat" "maximum" "I" (.int x2)) (Fscale2 : Fld Z h0 a2 "com/example/bingli/bingli/conformance/DataElementFormat" "scale" "I" (.int s2)) :
    MetFree l (⟨"com/example/bingli/bingli/conformance/DataElementFormat", "sameAs", "(Lcom/example/bingli/bingli/conformance/DataElementFormat;)Z"⟩ : MethodName) (head1 (Jvm.Cond.code (⟨"com/example/bingli/bingli/conformance/DataElementFormat", "sameAs", "(Lcom/example/bingli/bingli/conformance/DataElementFormat;)Z"⟩ : MethodName) prog_82_method_4_code 2 (some .boolean) :: ws) ({ frames := 0, cells := 0, slots := 0, locals := 0 } : Room)) (fun a U => a = #[(.ref a1), (.ref a2)] ∧ Z.Warmed39 U.vm ∧ U.heap = h0) (fun _ _ _ _ _ => True) (fun _ U oo U' => ∃ v L, oo = .returned v ∧ Q10 Z a1 a2 k1 m1 x1 s1 k2 m2 x2 s2 h0 n0 v U'.heap L ∧ FrameEnd U oo U' L ({ frames := 0, cells := 0, slots := 0, locals := 0 } : Room).cells ({ frames := 0, cells := 0, slots := 0, locals := 0 } : Room).slots) := by
  refine MetFree.of_bodySF (plainFor_of_name pn_10) hisR ?_
  intro p e s m args below meth c s₁ Bd hml0 hP hK
  obtain ⟨rfl, hZ, hh⟩ := hP
  have hx := Bd.exec
  have hby := Bd.bytes
  have hml : c.maxLocals = 2 := hml0
  have hown : s.vm.findClass "com/example/bingli/bingli/conformance/DataElementFormat" = some m.cls := findClass_of_methodNamed Bd.named
  have hnm := (name_of_methodNamed Bd.named Bd.method).1
  have X0 : Stand p l e ({ frames := 0, cells := 0, slots := 0, locals := 0 } : Room) s m #[(.ref a1), (.ref a2)] below meth c s₁ [] 0 0 := Stand.of_body Bd
  have e0 : s₁.heap = h0 := by rw [← hh, Bd.state]; rfl
  have N0 := Fr.nil n0
  have K0 : Keep h0 h0 [] := Keep.refl _ _
  have pre0 : ∀ tg, Steps p.tables e below (s₁.setTop (mkF m 0 #[.val (.ref a1), .val (.ref a2)] [])) tg → Steps p.tables e below (s₁.setTop (entryFrame m #[(.ref a1), (.ref a2)] 2)) tg := fun tg k => castTop (ef_10 m a1 a2) k
  have st1 : ∀ tg, Steps p.tables e below (s₁.setTop (mkF m 1 #[.val (.ref a1), .val (.ref a2)] [(.ref a1)])) tg → Steps p.tables e below (s₁.setTop (mkF m 0 #[.val (.ref a1), .val (.ref a2)] [])) tg := by
    intro tg kt
    show Steps p.tables e below (s₁.setTop (mkF m 0 #[.val (.ref a1), .val (.ref a2)] [])) tg
    refine XS.aloadN X0.here hx rfl (hb hby d10_0) rfl rfl ?_
    exact kt
  obtain ⟨T2, X2, e2, st2⟩ := getF X0 hx hZ hown (host := "") (Or.inl (hw _ (List.mem_of_getElem? (i := 51) rfl))) Via.refl e0 Fkind1 (g := (mkF m 1 #[.val (.ref a1), .val (.ref a2)] [(.ref a1)])) rfl rfl (hb hby d10_1)
  have st3 : ∀ tg, Steps p.tables e below (T2.setTop (mkF m 5 #[.val (.ref a1), .val (.ref a2)] [(.ref a2), (.ref k1)])) tg → Steps p.tables e below (T2.setTop (mkF m 4 #[.val (.ref a1), .val (.ref a2)] [(.ref k1)])) tg := by
    intro tg kt
    show Steps p.tables e below (T2.setTop (mkF m 4 #[.val (.ref a1), .val (.ref a2)] [(.ref k1)])) tg
    refine XS.aloadN X2.here hx rfl (hb hby d10_4) rfl rfl ?_
    exact kt
  obtain ⟨T4, X4, e4, st4⟩ := getF X2 hx hZ hown (host := "") (Or.inl (hw _ (List.mem_of_getElem? (i := 51) rfl))) Via.refl e2 Fkind2 (g := (mkF m 5 #[.val (.ref a1), .val (.ref a2)] [(.ref a2), (.ref k1)])) rfl rfl (hb hby d10_5)
  by_cases hc8_5 : k1 = k2
  · -- pc 8: k1 = k2
    have st6 : ∀ tg, Steps p.tables e below (T4.setTop (mkF m 12 #[.val (.ref a1), .val (.ref a2)] [(.ref a1)])) tg → Steps p.tables e below (T4.setTop (mkF m 8 #[.val (.ref a1), .val (.ref a2)] [(.ref k2), (.ref k1)])) tg := by
      intro tg kt
      show Steps p.tables e below (T4.setTop (mkF m 8 #[.val (.ref a1), .val (.ref a2)] [(.ref k2), (.ref k1)])) tg
      refine Jvm.RoadKit.acmp (g := (mkF m 8 #[.val (.ref a1), .val (.ref a2)] [(.ref k2), (.ref k1)])) X4 hx rfl rfl rfl (pc0 := 8) (pc' := 11) (same := true) rfl (hb hby d10_8) rfl (decide_eq_true (congrArg Value.ref hc8_5)) (by decide) (by decide) ?_
      show Steps p.tables e below (T4.setTop (mkF m 11 #[.val (.ref a1), .val (.ref a2)] [])) tg
      refine XS.aloadN X4.here hx rfl (hb hby d10_11) rfl rfl ?_
      exact kt
    obtain ⟨T7, X7, e7, st7⟩ := getF X4 hx hZ hown (host := "") (Or.inl (hw _ (List.mem_of_getElem? (i := 53) rfl))) Via.refl e4 Fminimum1 (g := (mkF m 12 #[.val (.ref a1), .val (.ref a2)] [(.ref a1)])) rfl rfl (hb hby d10_12)
    have st8 : ∀ tg, Steps p.tables e below (T7.setTop (mkF m 16 #[.val (.ref a1), .val (.ref a2)] [(.ref a2), (.int m1)])) tg → Steps p.tables e below (T7.setTop (mkF m 15 #[.val (.ref a1), .val (.ref a2)] [(.int m1)])) tg := by
      intro tg kt
      show Steps p.tables e below (T7.setTop (mkF m 15 #[.val (.ref a1), .val (.ref a2)] [(.int m1)])) tg
      refine XS.aloadN X7.here hx rfl (hb hby d10_15) rfl rfl ?_
      exact kt
    obtain ⟨T9, X9, e9, st9⟩ := getF X7 hx hZ hown (host := "") (Or.inl (hw _ (List.mem_of_getElem? (i := 53) rfl))) Via.refl e7 Fminimum2 (g := (mkF m 16 #[.val (.ref a1), .val (.ref a2)] [(.ref a2), (.int m1)])) rfl rfl (hb hby d10_16)
    by_cases hc19_10 : m1 = m2
    · -- pc 19: m1 = m2
      have st11 : ∀ tg, Steps p.tables e below (T9.setTop (mkF m 23 #[.val (.ref a1), .val (.ref a2)] [(.ref a1)])) tg → Steps p.tables e below (T9.setTop (mkF m 19 #[.val (.ref a1), .val (.ref a2)] [(.int m2), (.int m1)])) tg := by
        intro tg kt
        show Steps p.tables e below (T9.setTop (mkF m 19 #[.val (.ref a1), .val (.ref a2)] [(.int m2), (.int m1)])) tg
        refine XS.icmpNo X9.here hx rfl (hb hby d10_19) rfl (XT.ii_ne_f hc19_10) ?_
        show Steps p.tables e below (T9.setTop (mkF m 22 #[.val (.ref a1), .val (.ref a2)] [])) tg
        refine XS.aloadN X9.here hx rfl (hb hby d10_22) rfl rfl ?_
        exact kt
      obtain ⟨T12, X12, e12, st12⟩ := getF X9 hx hZ hown (host := "") (Or.inl (hw _ (List.mem_of_getElem? (i := 55) rfl))) Via.refl e9 Fmaximum1 (g := (mkF m 23 #[.val (.ref a1), .val (.ref a2)] [(.ref a1)])) rfl rfl (hb hby d10_23)
      have st13 : ∀ tg, Steps p.tables e below (T12.setTop (mkF m 27 #[.val (.ref a1), .val (.ref a2)] [(.ref a2), (.int x1)])) tg → Steps p.tables e below (T12.setTop (mkF m 26 #[.val (.ref a1), .val (.ref a2)] [(.int x1)])) tg := by
        intro tg kt
        show Steps p.tables e below (T12.setTop (mkF m 26 #[.val (.ref a1), .val (.ref a2)] [(.int x1)])) tg
        refine XS.aloadN X12.here hx rfl (hb hby d10_26) rfl rfl ?_
        exact kt
      obtain ⟨T14, X14, e14, st14⟩ := getF X12 hx hZ hown (host := "") (Or.inl (hw _ (List.mem_of_getElem? (i := 55) rfl))) Via.refl e12 Fmaximum2 (g := (mkF m 27 #[.val (.ref a1), .val (.ref a2)] [(.ref a2), (.int x1)])) rfl rfl (hb hby d10_27)
      by_cases hc30_15 : x1 = x2
      · -- pc 30: x1 = x2
        have st16 : ∀ tg, Steps p.tables e below (T14.setTop (mkF m 34 #[.val (.ref a1), .val (.ref a2)] [(.ref a1)])) tg → Steps p.tables e below (T14.setTop (mkF m 30 #[.val (.ref a1), .val (.ref a2)] [(.int x2), (.int x1)])) tg := by
          intro tg kt
          show Steps p.tables e below (T14.setTop (mkF m 30 #[.val (.ref a1), .val (.ref a2)] [(.int x2), (.int x1)])) tg
          refine XS.icmpNo X14.here hx rfl (hb hby d10_30) rfl (XT.ii_ne_f hc30_15) ?_
          show Steps p.tables e below (T14.setTop (mkF m 33 #[.val (.ref a1), .val (.ref a2)] [])) tg
          refine XS.aloadN X14.here hx rfl (hb hby d10_33) rfl rfl ?_
          exact kt
        obtain ⟨T17, X17, e17, st17⟩ := getF X14 hx hZ hown (host := "") (Or.inl (hw _ (List.mem_of_getElem? (i := 57) rfl))) Via.refl e14 Fscale1 (g := (mkF m 34 #[.val (.ref a1), .val (.ref a2)] [(.ref a1)])) rfl rfl (hb hby d10_34)
        have st18 : ∀ tg, Steps p.tables e below (T17.setTop (mkF m 38 #[.val (.ref a1), .val (.ref a2)] [(.ref a2), (.int s1)])) tg → Steps p.tables e below (T17.setTop (mkF m 37 #[.val (.ref a1), .val (.ref a2)] [(.int s1)])) tg := by
          intro tg kt
          show Steps p.tables e below (T17.setTop (mkF m 37 #[.val (.ref a1), .val (.ref a2)] [(.int s1)])) tg
          refine XS.aloadN X17.here hx rfl (hb hby d10_37) rfl rfl ?_
          exact kt
        obtain ⟨T19, X19, e19, st19⟩ := getF X17 hx hZ hown (host := "") (Or.inl (hw _ (List.mem_of_getElem? (i := 57) rfl))) Via.refl e17 Fscale2 (g := (mkF m 38 #[.val (.ref a1), .val (.ref a2)] [(.ref a2), (.int s1)])) rfl rfl (hb hby d10_38)
        by_cases hc41_20 : s1 = s2
        · -- pc 41: s1 = s2
          have st21 : ∀ tg, Steps p.tables e below (T19.setTop (mkF m 49 #[.val (.ref a1), .val (.ref a2)] [(.int (1 : Int32))])) tg → Steps p.tables e below (T19.setTop (mkF m 41 #[.val (.ref a1), .val (.ref a2)] [(.int s2), (.int s1)])) tg := by
            intro tg kt
            show Steps p.tables e below (T19.setTop (mkF m 41 #[.val (.ref a1), .val (.ref a2)] [(.int s2), (.int s1)])) tg
            refine XS.icmpNo X19.here hx rfl (hb hby d10_41) rfl (XT.ii_ne_f hc41_20) ?_
            show Steps p.tables e below (T19.setTop (mkF m 44 #[.val (.ref a1), .val (.ref a2)] [])) tg
            refine XS.iconst X19.here hx rfl (hb hby d10_44) ?_
            show Steps p.tables e below (T19.setTop (mkF m 45 #[.val (.ref a1), .val (.ref a2)] [(.int (1 : Int32))])) tg
            refine XS.goto X19.here hx rfl (pc0 := 45) (pc' := 49) rfl (hb hby d10_45) (by decide) (by decide) ?_
            exact kt
          obtain ⟨fs, hr, hrun, hended, hW, hsame⟩ := X19.leave (v := some (.int (1 : Int32))) (fun h => by rw [Bd.returns] at h; cases h)
          refine ⟨_, _, pre0 _ ?_, hrun, hended, _, _, rfl, ?_, ⟨_, rfl⟩, hW, hsame.mono (by decide) (by decide)⟩
          · refine st1 _ ?_
            show Steps p.tables e below (s₁.setTop (mkF m 1 #[.val (.ref a1), .val (.ref a2)] [(.ref a1)])) _
            refine st2 _ ?_
            refine st3 _ ?_
            show Steps p.tables e below (T2.setTop (mkF m 5 #[.val (.ref a1), .val (.ref a2)] [(.ref a2), (.ref k1)])) _
            refine st4 _ ?_
            refine st6 _ ?_
            show Steps p.tables e below (T4.setTop (mkF m 12 #[.val (.ref a1), .val (.ref a2)] [(.ref a1)])) _
            refine st7 _ ?_
            refine st8 _ ?_
            show Steps p.tables e below (T7.setTop (mkF m 16 #[.val (.ref a1), .val (.ref a2)] [(.ref a2), (.int m1)])) _
            refine st9 _ ?_
            refine st11 _ ?_
            show Steps p.tables e below (T9.setTop (mkF m 23 #[.val (.ref a1), .val (.ref a2)] [(.ref a1)])) _
            refine st12 _ ?_
            refine st13 _ ?_
            show Steps p.tables e below (T12.setTop (mkF m 27 #[.val (.ref a1), .val (.ref a2)] [(.ref a2), (.int x1)])) _
            refine st14 _ ?_
            refine st16 _ ?_
            show Steps p.tables e below (T14.setTop (mkF m 34 #[.val (.ref a1), .val (.ref a2)] [(.ref a1)])) _
            refine st17 _ ?_
            refine st18 _ ?_
            show Steps p.tables e below (T17.setTop (mkF m 38 #[.val (.ref a1), .val (.ref a2)] [(.ref a2), (.int s1)])) _
            refine st19 _ ?_
            refine st21 _ ?_
            show Steps p.tables e below (T19.setTop (mkF m 49 #[.val (.ref a1), .val (.ref a2)] [(.int (1 : Int32))])) _
            exact retN X19 hx (t := .boolean) Bd.returns (by simp) (hb hby d10_49) hr
          · show Q10 Z a1 a2 k1 m1 x1 s1 k2 m2 x2 s2 h0 n0 _ T19.heap _
            rw [e19]
            refine ⟨?_, N0, rfl⟩
            simp only [rv10, if_pos hc8_5, if_pos hc19_10, if_pos hc30_15, if_pos hc41_20]
        · -- pc 41: not s1 = s2
          have st22 : ∀ tg, Steps p.tables e below (T19.setTop (mkF m 49 #[.val (.ref a1), .val (.ref a2)] [(.int (0 : Int32))])) tg → Steps p.tables e below (T19.setTop (mkF m 41 #[.val (.ref a1), .val (.ref a2)] [(.int s2), (.int s1)])) tg := by
            intro tg kt
            show Steps p.tables e below (T19.setTop (mkF m 41 #[.val (.ref a1), .val (.ref a2)] [(.int s2), (.int s1)])) tg
            refine XS.icmpYes X19.here hx rfl (pc0 := 41) (pc' := 48) rfl (hb hby d10_41) rfl (XT.ii_ne_t hc41_20) (by decide) (by decide) ?_
            show Steps p.tables e below (T19.setTop (mkF m 48 #[.val (.ref a1), .val (.ref a2)] [])) tg
            refine XS.iconst X19.here hx rfl (hb hby d10_48) ?_
            exact kt
          obtain ⟨fs, hr, hrun, hended, hW, hsame⟩ := X19.leave (v := some (.int (0 : Int32))) (fun h => by rw [Bd.returns] at h; cases h)
          refine ⟨_, _, pre0 _ ?_, hrun, hended, _, _, rfl, ?_, ⟨_, rfl⟩, hW, hsame.mono (by decide) (by decide)⟩
          · refine st1 _ ?_
            show Steps p.tables e below (s₁.setTop (mkF m 1 #[.val (.ref a1), .val (.ref a2)] [(.ref a1)])) _
            refine st2 _ ?_
            refine st3 _ ?_
            show Steps p.tables e below (T2.setTop (mkF m 5 #[.val (.ref a1), .val (.ref a2)] [(.ref a2), (.ref k1)])) _
            refine st4 _ ?_
            refine st6 _ ?_
            show Steps p.tables e below (T4.setTop (mkF m 12 #[.val (.ref a1), .val (.ref a2)] [(.ref a1)])) _
            refine st7 _ ?_
            refine st8 _ ?_
            show Steps p.tables e below (T7.setTop (mkF m 16 #[.val (.ref a1), .val (.ref a2)] [(.ref a2), (.int m1)])) _
            refine st9 _ ?_
            refine st11 _ ?_
            show Steps p.tables e below (T9.setTop (mkF m 23 #[.val (.ref a1), .val (.ref a2)] [(.ref a1)])) _
            refine st12 _ ?_
            refine st13 _ ?_
            show Steps p.tables e below (T12.setTop (mkF m 27 #[.val (.ref a1), .val (.ref a2)] [(.ref a2), (.int x1)])) _
            refine st14 _ ?_
            refine st16 _ ?_
            show Steps p.tables e below (T14.setTop (mkF m 34 #[.val (.ref a1), .val (.ref a2)] [(.ref a1)])) _
            refine st17 _ ?_
            refine st18 _ ?_
            show Steps p.tables e below (T17.setTop (mkF m 38 #[.val (.ref a1), .val (.ref a2)] [(.ref a2), (.int s1)])) _
            refine st19 _ ?_
            refine st22 _ ?_
            show Steps p.tables e below (T19.setTop (mkF m 49 #[.val (.ref a1), .val (.ref a2)] [(.int (0 : Int32))])) _
            exact retN X19 hx (t := .boolean) Bd.returns (by simp) (hb hby d10_49) hr
          · show Q10 Z a1 a2 k1 m1 x1 s1 k2 m2 x2 s2 h0 n0 _ T19.heap _
            rw [e19]
            refine ⟨?_, N0, rfl⟩
            simp only [rv10, if_pos hc8_5, if_pos hc19_10, if_pos hc30_15, if_neg hc41_20]
      · -- pc 30: not x1 = x2
        have st23 : ∀ tg, Steps p.tables e below (T14.setTop (mkF m 49 #[.val (.ref a1), .val (.ref a2)] [(.int (0 : Int32))])) tg → Steps p.tables e below (T14.setTop (mkF m 30 #[.val (.ref a1), .val (.ref a2)] [(.int x2), (.int x1)])) tg := by
          intro tg kt
          show Steps p.tables e below (T14.setTop (mkF m 30 #[.val (.ref a1), .val (.ref a2)] [(.int x2), (.int x1)])) tg
          refine XS.icmpYes X14.here hx rfl (pc0 := 30) (pc' := 48) rfl (hb hby d10_30) rfl (XT.ii_ne_t hc30_15) (by decide) (by decide) ?_
          show Steps p.tables e below (T14.setTop (mkF m 48 #[.val (.ref a1), .val (.ref a2)] [])) tg
          refine XS.iconst X14.here hx rfl (hb hby d10_48) ?_
          exact kt
        obtain ⟨fs, hr, hrun, hended, hW, hsame⟩ := X14.leave (v := some (.int (0 : Int32))) (fun h => by rw [Bd.returns] at h; cases h)
        refine ⟨_, _, pre0 _ ?_, hrun, hended, _, _, rfl, ?_, ⟨_, rfl⟩, hW, hsame.mono (by decide) (by decide)⟩
        · refine st1 _ ?_
          show Steps p.tables e below (s₁.setTop (mkF m 1 #[.val (.ref a1), .val (.ref a2)] [(.ref a1)])) _
          refine st2 _ ?_
          refine st3 _ ?_
          show Steps p.tables e below (T2.setTop (mkF m 5 #[.val (.ref a1), .val (.ref a2)] [(.ref a2), (.ref k1)])) _
          refine st4 _ ?_
          refine st6 _ ?_
          show Steps p.tables e below (T4.setTop (mkF m 12 #[.val (.ref a1), .val (.ref a2)] [(.ref a1)])) _
          refine st7 _ ?_
          refine st8 _ ?_
          show Steps p.tables e below (T7.setTop (mkF m 16 #[.val (.ref a1), .val (.ref a2)] [(.ref a2), (.int m1)])) _
          refine st9 _ ?_
          refine st11 _ ?_
          show Steps p.tables e below (T9.setTop (mkF m 23 #[.val (.ref a1), .val (.ref a2)] [(.ref a1)])) _
          refine st12 _ ?_
          refine st13 _ ?_
          show Steps p.tables e below (T12.setTop (mkF m 27 #[.val (.ref a1), .val (.ref a2)] [(.ref a2), (.int x1)])) _
          refine st14 _ ?_
          refine st23 _ ?_
          show Steps p.tables e below (T14.setTop (mkF m 49 #[.val (.ref a1), .val (.ref a2)] [(.int (0 : Int32))])) _
          exact retN X14 hx (t := .boolean) Bd.returns (by simp) (hb hby d10_49) hr
        · show Q10 Z a1 a2 k1 m1 x1 s1 k2 m2 x2 s2 h0 n0 _ T14.heap _
          rw [e14]
          refine ⟨?_, N0, rfl⟩
          simp only [rv10, if_pos hc8_5, if_pos hc19_10, if_neg hc30_15]
    · -- pc 19: not m1 = m2
      have st24 : ∀ tg, Steps p.tables e below (T9.setTop (mkF m 49 #[.val (.ref a1), .val (.ref a2)] [(.int (0 : Int32))])) tg → Steps p.tables e below (T9.setTop (mkF m 19 #[.val (.ref a1), .val (.ref a2)] [(.int m2), (.int m1)])) tg := by
        intro tg kt
        show Steps p.tables e below (T9.setTop (mkF m 19 #[.val (.ref a1), .val (.ref a2)] [(.int m2), (.int m1)])) tg
        refine XS.icmpYes X9.here hx rfl (pc0 := 19) (pc' := 48) rfl (hb hby d10_19) rfl (XT.ii_ne_t hc19_10) (by decide) (by decide) ?_
        show Steps p.tables e below (T9.setTop (mkF m 48 #[.val (.ref a1), .val (.ref a2)] [])) tg
        refine XS.iconst X9.here hx rfl (hb hby d10_48) ?_
        exact kt
      obtain ⟨fs, hr, hrun, hended, hW, hsame⟩ := X9.leave (v := some (.int (0 : Int32))) (fun h => by rw [Bd.returns] at h; cases h)
      refine ⟨_, _, pre0 _ ?_, hrun, hended, _, _, rfl, ?_, ⟨_, rfl⟩, hW, hsame.mono (by decide) (by decide)⟩
      · refine st1 _ ?_
        show Steps p.tables e below (s₁.setTop (mkF m 1 #[.val (.ref a1), .val (.ref a2)] [(.ref a1)])) _
        refine st2 _ ?_
        refine st3 _ ?_
        show Steps p.tables e below (T2.setTop (mkF m 5 #[.val (.ref a1), .val (.ref a2)] [(.ref a2), (.ref k1)])) _
        refine st4 _ ?_
        refine st6 _ ?_
        show Steps p.tables e below (T4.setTop (mkF m 12 #[.val (.ref a1), .val (.ref a2)] [(.ref a1)])) _
        refine st7 _ ?_
        refine st8 _ ?_
        show Steps p.tables e below (T7.setTop (mkF m 16 #[.val (.ref a1), .val (.ref a2)] [(.ref a2), (.int m1)])) _
        refine st9 _ ?_
        refine st24 _ ?_
        show Steps p.tables e below (T9.setTop (mkF m 49 #[.val (.ref a1), .val (.ref a2)] [(.int (0 : Int32))])) _
        exact retN X9 hx (t := .boolean) Bd.returns (by simp) (hb hby d10_49) hr
      · show Q10 Z a1 a2 k1 m1 x1 s1 k2 m2 x2 s2 h0 n0 _ T9.heap _
        rw [e9]
        refine ⟨?_, N0, rfl⟩
        simp only [rv10, if_pos hc8_5, if_neg hc19_10]
  · -- pc 8: not k1 = k2
    have st25 : ∀ tg, Steps p.tables e below (T4.setTop (mkF m 49 #[.val (.ref a1), .val (.ref a2)] [(.int (0 : Int32))])) tg → Steps p.tables e below (T4.setTop (mkF m 8 #[.val (.ref a1), .val (.ref a2)] [(.ref k2), (.ref k1)])) tg := by
      intro tg kt
      show Steps p.tables e below (T4.setTop (mkF m 8 #[.val (.ref a1), .val (.ref a2)] [(.ref k2), (.ref k1)])) tg
      refine Jvm.RoadKit.acmp (g := (mkF m 8 #[.val (.ref a1), .val (.ref a2)] [(.ref k2), (.ref k1)])) X4 hx rfl rfl rfl (pc0 := 8) (pc' := 48) (same := false) rfl (hb hby d10_8) rfl (decide_eq_false fun q => hc8_5 (Value.ref.inj q)) (by decide) (by decide) ?_
      show Steps p.tables e below (T4.setTop (mkF m 48 #[.val (.ref a1), .val (.ref a2)] [])) tg
      refine XS.iconst X4.here hx rfl (hb hby d10_48) ?_
      exact kt
    obtain ⟨fs, hr, hrun, hended, hW, hsame⟩ := X4.leave (v := some (.int (0 : Int32))) (fun h => by rw [Bd.returns] at h; cases h)
    refine ⟨_, _, pre0 _ ?_, hrun, hended, _, _, rfl, ?_, ⟨_, rfl⟩, hW, hsame.mono (by decide) (by decide)⟩
    · refine st1 _ ?_
      show Steps p.tables e below (s₁.setTop (mkF m 1 #[.val (.ref a1), .val (.ref a2)] [(.ref a1)])) _
      refine st2 _ ?_
      refine st3 _ ?_
      show Steps p.tables e below (T2.setTop (mkF m 5 #[.val (.ref a1), .val (.ref a2)] [(.ref a2), (.ref k1)])) _
      refine st4 _ ?_
      refine st25 _ ?_
      show Steps p.tables e below (T4.setTop (mkF m 49 #[.val (.ref a1), .val (.ref a2)] [(.int (0 : Int32))])) _
      exact retN X4 hx (t := .boolean) Bd.returns (by simp) (hb hby d10_49) hr
    · show Q10 Z a1 a2 k1 m1 x1 s1 k2 m2 x2 s2 h0 n0 _ T4.heap _
      rw [e4]
      refine ⟨?_, N0, rfl⟩
      simp only [rv10, if_neg hc8_5]
theorem own_m255 (x : Int32) : 0 ≤ (x &&& (255 : Int32)).toInt ∧ (x &&& (255 : Int32)).toInt ≤ 255 := by
  have h : (x &&& (255 : Int32)).toBitVec.toNat < 256 := by
    simp only [Int32.toBitVec_and, BitVec.toNat_and]
    exact Nat.lt_succ_of_le Nat.and_le_right
  have e : (x &&& (255 : Int32)).toInt = ((x &&& (255 : Int32)).toBitVec.toNat : Int) := by
    show (x &&& (255 : Int32)).toBitVec.toInt = _
    exact BitVec.toInt_eq_toNat_of_lt (by omega)
  omega
theorem own_hp (y : Int32) : ∀ c ∈ [nar .char ((y &&& (255 : Int32)).toUInt32.toUInt16.toUInt32.toInt32)], ¬ c < 0 ∧ ¬ (255 : Int32) < c := by
  intro c hc
  cases List.mem_singleton.mp hc
  have h := own_m255 y
  have z : (255 : Int32).toInt = 255 := by decide
  have z0 : (0 : Int32).toInt = 0 := by decide
  simp only [nar, i2c_mask]
  rw [Int32.lt_iff_toInt_lt, Int32.lt_iff_toInt_lt]
  omega
theorem own_kd {Z : State} {h : Heap} {a b c d e f g : Addr} {k : Int32} (h0 : 0 ≤ k.toInt) (h6 : k.toInt ≤ 6)
    (g0 : Fld Z h a "java/lang/Enum" "ordinal" "I" (.int 0)) (g1 : Fld Z h b "java/lang/Enum" "ordinal" "I" (.int 1)) (g2 : Fld Z h c "java/lang/Enum" "ordinal" "I" (.int 2)) (g3 : Fld Z h d "java/lang/Enum" "ordinal" "I" (.int 3)) (g4 : Fld Z h e "java/lang/Enum" "ordinal" "I" (.int 4)) (g5 : Fld Z h f "java/lang/Enum" "ordinal" "I" (.int 5)) (g6 : Fld Z h g "java/lang/Enum" "ordinal" "I" (.int 6)) :
    Fld Z h (rv7 k a b c d e f g) "java/lang/Enum" "ordinal" "I" (.int k) := by
  have lit : ∀ n : Int32, k.toInt = n.toInt → k = n := fun n q => Int32.toInt_inj.mp q
  have z6 : (6 : Int32).toInt = 6 := by decide
  simp only [rv7]
  split
  · next q => rw [q]; exact g0
  split
  · next q => rw [q]; exact g1
  split
  · next q => rw [q]; exact g2
  split
  · next q => rw [q]; exact g3
  split
  · next q => rw [q]; exact g4
  split
  · next q => rw [q]; exact g5
  next n0 n1 n2 n3 n4 n5 =>
    have m0 : k.toInt ≠ 0 := fun q => n0 (lit 0 q)
    have m1 : k.toInt ≠ 1 := fun q => n1 (lit 1 q)
    have m2 : k.toInt ≠ 2 := fun q => n2 (lit 2 q)
    have m3 : k.toInt ≠ 3 := fun q => n3 (lit 3 q)
    have m4 : k.toInt ≠ 4 := fun q => n4 (lit 4 q)
    have m5 : k.toInt ≠ 5 := fun q => n5 (lit 5 q)
    rw [lit 6 (by omega)]; exact g6
theorem own_k (y : Int32) : 0 ≤ ((y &&& (255 : Int32)) % (7 : Int32)).toInt ∧ ((y &&& (255 : Int32)) % (7 : Int32)).toInt ≤ 6 := by
  have h := own_m255 y
  rw [Int32.toInt_mod, show (7 : Int32).toInt = 7 from by decide]
  have h1 := Int.tmod_nonneg 7 h.1
  have h2 := Int.tmod_lt_of_pos (y &&& (255 : Int32)).toInt (show (0 : Int) < 7 by decide)
  omega
theorem own_add (x d : Int32) : (x = x + d) ↔ d = 0 := by simp
theorem own_fin {a b A B : Addr} {k1 k2 mn mx sc d p q r : Int32} (h : A = B ↔ k1 = k2) :
    rv10 a b A mn mx sc B (if p = 0 then mn else mn + d) (if q = 0 then mx else mx + d) (if r = 0 then sc else sc + d) = if k1 = k2 then (if d = 0 then (1 : Int32) else if p = 0 then (if q = 0 then (if r = 0 then (1 : Int32) else (0 : Int32)) else (0 : Int32)) else (0 : Int32)) else (0 : Int32) := by
  simp only [rv10, h]
  by_cases hk : k1 = k2 <;> by_cases hp : p = 0 <;> by_cases hq : q = 0 <;> by_cases hr : r = 0 <;> by_cases hd : d = 0 <;> simp [hk, hp, hq, hr, hd, own_add]
theorem own_sym {a b A B : Addr} {m1 x1 s1 m2 x2 s2 : Int32} : rv10 a b A m1 x1 s1 B m2 x2 s2 = rv10 b a B m2 x2 s2 A m1 x1 s1 := by
  simp only [rv10, @eq_comm _ A B, @eq_comm _ m1 m2, @eq_comm _ x1 x2, @eq_comm _ s1 s2]
theorem own_self {a A : Addr} {m x s : Int32} : rv10 a a A m x s A m x s = 1 := by simp [rv10]
theorem own_ord {args : Array Value} {s : State} {t : Term} {x : Addr} {C n d : String} {k : Int32} (ev : t.eval args s none [] s = some (.ref x)) (h : (Cond.eq (.field t C n d) (.int k)).value args s none s [] = some true) : s.fieldOf? x C n d = some (.int k) :=
  (fld_at ev).symm.trans (eqv_i (Term.int_eval k) h)
theorem own_nz {args : Array Value} {s : State} {t : Term} {x : Int32} (ev : t.eval args s none [] s = some (.int x)) (h : (Cond.not (.eq t (.int 0))).value args s none s [] = some true) : ¬ (x = 0) := by
  intro q
  have := not_v h
  simp [Cond.value, ev, Term.int_eval, q] at this
theorem pn_0 : plainName "com/example/bingli/bingli/conformance/DataElementFormatSameAsPinLaw" = true := by first | (simp [plainName, overriddenIn]; done) | decide +kernel
theorem ef_0 (m : MethodId) (p1 : Int32) (p2 : Int32) (p3 : Int32) (p4 : Int32) (p5 : Int32) (p6 : Int32) : entryFrame m #[(.int p1), (.int p2), (.int p3), (.int p4), (.int p5), (.int p6)] maxLocals = mkF m 0 #[.val (.int p1), .val (.int p2), .val (.int p3), .val (.int p4), .val (.int p5), .val (.int p6), .unset, .unset, .unset, .unset, .unset, .unset, .unset, .unset, .unset, .unset, .unset, .unset, .unset, .unset, .unset, .unset] [] := by first | (simp [entryFrame, mkF, argsToLocals, Value.category, maxLocals]; done) | rfl
def Q0 (Z : State) (p1 : Int32) (p2 : Int32) (p3 : Int32) (p4 : Int32) (p5 : Int32) (p6 : Int32) (w0 : Addr) (w1 : Addr) (w2 : Addr) (w3 : Addr) (w4 : Addr) (w5 : Addr) (w6 : Addr) (wc : Int32) (h0 : Heap) (n0 : Nat) (v : Option Value) (h : Heap) (L : List Loc) : Prop := v = some (.int (1 : Int32)) ∧ Fr n0 L
set_option maxRecDepth 65536 in
set_option maxHeartbeats 40000000 in
theorem rm0 (l : Launch) (Z : State) (a0 : Array Value) (hw : ∀ d ∈ tables_1, d.before a0 Z = true) (ws : List Jvm.Cond) (p1 : Int32) (p2 : Int32) (p3 : Int32) (p4 : Int32) (p5 : Int32) (p6 : Int32) (w0 : Addr) (w1 : Addr) (w2 : Addr) (w3 : Addr) (w4 : Addr) (w5 : Addr) (w6 : Addr) (wc : Int32) (h0 : Heap) (n0 : Nat) (Z0 : n0 ≤ h0.size) (OLD : Old Z n0 h0) (S_LETTERS : Sta Z Z.heap "com/example/bingli/bingli/conformance/DataElementFormat$Kind" "LETTERS" "Lcom/example/bingli/bingli/conformance/DataElementFormat$Kind;" (.ref w0)) (S_TEXT : Sta Z Z.heap "com/example/bingli/bingli/conformance/DataElementFormat$Kind" "TEXT" "Lcom/example/bingli/bingli/conformance/DataElementFormat$Kind;" (.ref w1)) (S_DIGITS : Sta Z Z.heap "com/example/bingli/bingli/conformance/DataElementFormat$Kind" "DIGITS" "Lcom/example/bingli/bingli/conformance/DataElementFormat$Kind;" (.ref w2)) (S_DECIMAL : Sta Z Z.heap "com/example/bingli/bingli/conformance/DataElementFormat$Kind" "DECIMAL" "Lcom/example/bingli/bingli/conformance/DataElementFormat$Kind;" (.ref w3)) (S_DATE : Sta Z Z.heap "com/example/bingli/bingli/conformance/DataElementFormat$Kind" "DATE" "Lcom/example/bingli/bingli/conformance/DataElementFormat$Kind;" (.ref w4)) (S_DATE_TIME : Sta Z Z.heap "com/example/bingli/bingli/conformance/DataElementFormat$Kind" "DATE_TIME" "Lcom/example/bingli/bingli/conformance/DataElementFormat$Kind;" (.ref w5)) (S_LOGICAL : Sta Z Z.heap "com/example/bingli/bingli/conformance/DataElementFormat$Kind" "LOGICAL" "Lcom/example/bingli/bingli/conformance/DataElementFormat$Kind;" (.ref w6)) (S_c : Sta Z Z.heap "java/lang/String" "COMPACT_STRINGS" "Z" (.int wc)) (hwc : ¬ wc = 0) (O_LETTERS : Fld Z Z.heap w0 "java/lang/Enum" "ordinal" "I" (.int 0)) (O_TEXT : Fld Z Z.heap w1 "java/lang/Enum" "ordinal" "I" (.int 1)) (O_DIGITS : Fld Z Z.heap w2 "java/lang/Enum" "ordinal" "I" (.int 2)) (O_DECIMAL : Fld Z Z.heap w3 "java/lang/Enum" "ordinal" "I" (.int 3)) (O_DATE : Fld Z Z.heap w4 "java/lang/Enum" "ordinal" "I" (.int 4)) (O_DATE_TIME : Fld Z Z.heap w5 "java/lang/Enum" "ordinal" "I" (.int 5)) (O_LOGICAL : Fld Z Z.heap w6 "java/lang/Enum" "ordinal" "I" (.int 6)) :
    MetFree l x (head1 (Jvm.Cond.code x code maxLocals ret :: ws) room_1) (fun a U => a = #[(.int p1), (.int p2), (.int p3), (.int p4), (.int p5), (.int p6)] ∧ Z.Warmed39 U.vm ∧ U.heap = h0) (fun _ _ _ _ _ => True) (fun _ U oo U' => ∃ v L, oo = .returned v ∧ Q0 Z p1 p2 p3 p4 p5 p6 w0 w1 w2 w3 w4 w5 w6 wc h0 n0 v U'.heap L ∧ FrameEnd U oo U' L room_1.cells room_1.slots) := by
  refine MetFree.of_bodySF (plainFor_of_name pn_0) hisR ?_
  intro p e s m args below meth c s₁ Bd hml0 hP hK
  obtain ⟨rfl, hZ, hh⟩ := hP
  have hx := Bd.exec
  have hby := Bd.bytes
  have hml : c.maxLocals = 22 := hml0
  have hown : s.vm.findClass "com/example/bingli/bingli/conformance/DataElementFormatSameAsPinLaw" = some m.cls := findClass_of_methodNamed Bd.named
  have hnm := (name_of_methodNamed Bd.named Bd.method).1
  have X0 : Stand p l e room_1 s m #[(.int p1), (.int p2), (.int p3), (.int p4), (.int p5), (.int p6)] below meth c s₁ [] 0 0 := Stand.of_body Bd
  have e0 : s₁.heap = h0 := by rw [← hh, Bd.state]; rfl
  have N0 := Fr.nil n0
  have K0 : Keep h0 h0 [] := Keep.refl _ _
  have pre0 : ∀ tg, Steps p.tables e below (s₁.setTop (mkF m 0 #[.val (.int p1), .val (.int p2), .val (.int p3), .val (.int p4), .val (.int p5), .val (.int p6), .unset, .unset, .unset, .unset, .unset, .unset, .unset, .unset, .unset, .unset, .unset, .unset, .unset, .unset, .unset, .unset] [])) tg → Steps p.tables e below (s₁.setTop (entryFrame m #[(.int p1), (.int p2), (.int p3), (.int p4), (.int p5), (.int p6)] maxLocals)) tg := fun tg k => castTop (ef_0 m p1 p2 p3 p4 p5 p6) k
  have hws : ∀ d ∈ StrChars.Road.words, d.before a0 Z = true := fun d hd => hw d ((by decide +kernel : ∀ d ∈ StrChars.Road.words, d ∈ tables_1) d hd)
  have st2 : ∀ tg, Steps p.tables e below (s₁.setTop (mkF m 14 #[.val (.int p1), .val (.int p2), .val (.int p3), .val (.int p4), .val (.int p5), .val (.int p6), .val (.int ((p1 &&& (255 : Int32)) % (7 : Int32))), .unset, .unset, .unset, .unset, .unset, .unset, .unset, .unset, .unset, .unset, .unset, .unset, .unset, .unset, .unset] [(.int (p6 &&& (1 : Int32)))])) tg → Steps p.tables e below (s₁.setTop (mkF m 0 #[.val (.int p1), .val (.int p2), .val (.int p3), .val (.int p4), .val (.int p5), .val (.int p6), .unset, .unset, .unset, .unset, .unset, .unset, .unset, .unset, .unset, .unset, .unset, .unset, .unset, .unset, .unset, .unset] [])) tg := by
    intro tg kt
    show Steps p.tables e below (s₁.setTop (mkF m 0 #[.val (.int p1), .val (.int p2), .val (.int p3), .val (.int p4), .val (.int p5), .val (.int p6), .unset, .unset, .unset, .unset, .unset, .unset, .unset, .unset, .unset, .unset, .unset, .unset, .unset, .unset, .unset, .unset] [])) tg
    refine XS.iloadN X0.here hx rfl (hb hby at_0) rfl ?_
    show Steps p.tables e below (s₁.setTop (mkF m 1 #[.val (.int p1), .val (.int p2), .val (.int p3), .val (.int p4), .val (.int p5), .val (.int p6), .unset, .unset, .unset, .unset, .unset, .unset, .unset, .unset, .unset, .unset, .unset, .unset, .unset, .unset, .unset, .unset] [(.int p1)])) tg
    refine XS.sipush X0.here hx rfl (hb hby at_1) ?_
    show Steps p.tables e below (s₁.setTop (mkF m 4 #[.val (.int p1), .val (.int p2), .val (.int p3), .val (.int p4), .val (.int p5), .val (.int p6), .unset, .unset, .unset, .unset, .unset, .unset, .unset, .unset, .unset, .unset, .unset, .unset, .unset, .unset, .unset, .unset] [(.int (255 : Int32)), (.int p1)])) tg
    refine XS.iand X0.here hx rfl (hb hby at_4) rfl ?_
    show Steps p.tables e below (s₁.setTop (mkF m 5 #[.val (.int p1), .val (.int p2), .val (.int p3), .val (.int p4), .val (.int p5), .val (.int p6), .unset, .unset, .unset, .unset, .unset, .unset, .unset, .unset, .unset, .unset, .unset, .unset, .unset, .unset, .unset, .unset] [(.int (p1 &&& (255 : Int32)))])) tg
    refine XS.bipush X0.here hx rfl (hb hby at_5) ?_
    show Steps p.tables e below (s₁.setTop (mkF m 7 #[.val (.int p1), .val (.int p2), .val (.int p3), .val (.int p4), .val (.int p5), .val (.int p6), .unset, .unset, .unset, .unset, .unset, .unset, .unset, .unset, .unset, .unset, .unset, .unset, .unset, .unset, .unset, .unset] [(.int (7 : Int32)), (.int (p1 &&& (255 : Int32)))])) tg
    refine iremM X0 hx rfl (hb hby at_7) rfl (by decide) ?_
    show Steps p.tables e below (s₁.setTop (mkF m 8 #[.val (.int p1), .val (.int p2), .val (.int p3), .val (.int p4), .val (.int p5), .val (.int p6), .unset, .unset, .unset, .unset, .unset, .unset, .unset, .unset, .unset, .unset, .unset, .unset, .unset, .unset, .unset, .unset] [(.int ((p1 &&& (255 : Int32)) % (7 : Int32)))])) tg
    refine XS.istore X0.here hx rfl (hb hby at_8) rfl (l' := #[.val (.int p1), .val (.int p2), .val (.int p3), .val (.int p4), .val (.int p5), .val (.int p6), .val (.int ((p1 &&& (255 : Int32)) % (7 : Int32))), .unset, .unset, .unset, .unset, .unset, .unset, .unset, .unset, .unset, .unset, .unset, .unset, .unset, .unset, .unset]) rfl ?_
    show Steps p.tables e below (s₁.setTop (mkF m 10 #[.val (.int p1), .val (.int p2), .val (.int p3), .val (.int p4), .val (.int p5), .val (.int p6), .val (.int ((p1 &&& (255 : Int32)) % (7 : Int32))), .unset, .unset, .unset, .unset, .unset, .unset, .unset, .unset, .unset, .unset, .unset, .unset, .unset, .unset, .unset] [])) tg
    refine XS.iload X0.here hx rfl (hb hby at_10) rfl ?_
    show Steps p.tables e below (s₁.setTop (mkF m 12 #[.val (.int p1), .val (.int p2), .val (.int p3), .val (.int p4), .val (.int p5), .val (.int p6), .val (.int ((p1 &&& (255 : Int32)) % (7 : Int32))), .unset, .unset, .unset, .unset, .unset, .unset, .unset, .unset, .unset, .unset, .unset, .unset, .unset, .unset, .unset] [(.int p6)])) tg
    refine XS.iconst X0.here hx rfl (hb hby at_12) ?_
    show Steps p.tables e below (s₁.setTop (mkF m 13 #[.val (.int p1), .val (.int p2), .val (.int p3), .val (.int p4), .val (.int p5), .val (.int p6), .val (.int ((p1 &&& (255 : Int32)) % (7 : Int32))), .unset, .unset, .unset, .unset, .unset, .unset, .unset, .unset, .unset, .unset, .unset, .unset, .unset, .unset, .unset] [(.int (1 : Int32)), (.int p6)])) tg
    refine XS.iand X0.here hx rfl (hb hby at_13) rfl ?_
    exact kt
  obtain ⟨v3, hv3⟩ : ∃ z, z = if (p6 &&& (1 : Int32)) = 0 then ((p1 &&& (255 : Int32)) % (7 : Int32)) else ((((p1.toUInt32 >>> ((8 : Int32) &&& 31).toUInt32).toInt32) &&& (255 : Int32)) % (7 : Int32)) := ⟨_, rfl⟩
  have st4 : ∀ tg, Steps p.tables e below (s₁.setTop (mkF m 33 #[.val (.int p1), .val (.int p2), .val (.int p3), .val (.int p4), .val (.int p5), .val (.int p6), .val (.int ((p1 &&& (255 : Int32)) % (7 : Int32))), .unset, .unset, .unset, .unset, .unset, .unset, .unset, .unset, .unset, .unset, .unset, .unset, .unset, .unset, .unset] [(.int v3)])) tg → Steps p.tables e below (s₁.setTop (mkF m 14 #[.val (.int p1), .val (.int p2), .val (.int p3), .val (.int p4), .val (.int p5), .val (.int p6), .val (.int ((p1 &&& (255 : Int32)) % (7 : Int32))), .unset, .unset, .unset, .unset, .unset, .unset, .unset, .unset, .unset, .unset, .unset, .unset, .unset, .unset, .unset] [(.int (p6 &&& (1 : Int32)))])) tg := by
    intro tg kt
    by_cases hc14_1 : (p6 &&& (1 : Int32)) = 0
    · have qv3 : v3 = ((p1 &&& (255 : Int32)) % (7 : Int32)) := hv3.trans (if_pos hc14_1)
      rw [qv3] at kt
      show Steps p.tables e below (s₁.setTop (mkF m 14 #[.val (.int p1), .val (.int p2), .val (.int p3), .val (.int p4), .val (.int p5), .val (.int p6), .val (.int ((p1 &&& (255 : Int32)) % (7 : Int32))), .unset, .unset, .unset, .unset, .unset, .unset, .unset, .unset, .unset, .unset, .unset, .unset, .unset, .unset, .unset] [(.int (p6 &&& (1 : Int32)))])) tg
      refine XS.ifYes X0.here hx rfl (pc0 := 14) (pc' := 31) rfl (hb hby at_14) rfl (XT.i0_eq_t hc14_1) (by decide) (by decide) ?_
      show Steps p.tables e below (s₁.setTop (mkF m 31 #[.val (.int p1), .val (.int p2), .val (.int p3), .val (.int p4), .val (.int p5), .val (.int p6), .val (.int ((p1 &&& (255 : Int32)) % (7 : Int32))), .unset, .unset, .unset, .unset, .unset, .unset, .unset, .unset, .unset, .unset, .unset, .unset, .unset, .unset, .unset] [])) tg
      refine XS.iload X0.here hx rfl (hb hby at_31) rfl ?_
      exact kt
    · have qv3 : v3 = ((((p1.toUInt32 >>> ((8 : Int32) &&& 31).toUInt32).toInt32) &&& (255 : Int32)) % (7 : Int32)) := hv3.trans (if_neg hc14_1)
      rw [qv3] at kt
      show Steps p.tables e below (s₁.setTop (mkF m 14 #[.val (.int p1), .val (.int p2), .val (.int p3), .val (.int p4), .val (.int p5), .val (.int p6), .val (.int ((p1 &&& (255 : Int32)) % (7 : Int32))), .unset, .unset, .unset, .unset, .unset, .unset, .unset, .unset, .unset, .unset, .unset, .unset, .unset, .unset, .unset] [(.int (p6 &&& (1 : Int32)))])) tg
      refine XS.ifNo X0.here hx rfl (hb hby at_14) rfl (XT.i0_eq_f hc14_1) ?_
      show Steps p.tables e below (s₁.setTop (mkF m 17 #[.val (.int p1), .val (.int p2), .val (.int p3), .val (.int p4), .val (.int p5), .val (.int p6), .val (.int ((p1 &&& (255 : Int32)) % (7 : Int32))), .unset, .unset, .unset, .unset, .unset, .unset, .unset, .unset, .unset, .unset, .unset, .unset, .unset, .unset, .unset] [])) tg
      refine XS.iloadN X0.here hx rfl (hb hby at_17) rfl ?_
      show Steps p.tables e below (s₁.setTop (mkF m 18 #[.val (.int p1), .val (.int p2), .val (.int p3), .val (.int p4), .val (.int p5), .val (.int p6), .val (.int ((p1 &&& (255 : Int32)) % (7 : Int32))), .unset, .unset, .unset, .unset, .unset, .unset, .unset, .unset, .unset, .unset, .unset, .unset, .unset, .unset, .unset] [(.int p1)])) tg
      refine XS.bipush X0.here hx rfl (hb hby at_18) ?_
      show Steps p.tables e below (s₁.setTop (mkF m 20 #[.val (.int p1), .val (.int p2), .val (.int p3), .val (.int p4), .val (.int p5), .val (.int p6), .val (.int ((p1 &&& (255 : Int32)) % (7 : Int32))), .unset, .unset, .unset, .unset, .unset, .unset, .unset, .unset, .unset, .unset, .unset, .unset, .unset, .unset, .unset] [(.int (8 : Int32)), (.int p1)])) tg
      refine XS.iushr X0.here hx rfl (hb hby at_20) rfl ?_
      show Steps p.tables e below (s₁.setTop (mkF m 21 #[.val (.int p1), .val (.int p2), .val (.int p3), .val (.int p4), .val (.int p5), .val (.int p6), .val (.int ((p1 &&& (255 : Int32)) % (7 : Int32))), .unset, .unset, .unset, .unset, .unset, .unset, .unset, .unset, .unset, .unset, .unset, .unset, .unset, .unset, .unset] [(.int ((p1.toUInt32 >>> ((8 : Int32) &&& 31).toUInt32).toInt32))])) tg
      refine XS.sipush X0.here hx rfl (hb hby at_21) ?_
      show Steps p.tables e below (s₁.setTop (mkF m 24 #[.val (.int p1), .val (.int p2), .val (.int p3), .val (.int p4), .val (.int p5), .val (.int p6), .val (.int ((p1 &&& (255 : Int32)) % (7 : Int32))), .unset, .unset, .unset, .unset, .unset, .unset, .unset, .unset, .unset, .unset, .unset, .unset, .unset, .unset, .unset] [(.int (255 : Int32)), (.int ((p1.toUInt32 >>> ((8 : Int32) &&& 31).toUInt32).toInt32))])) tg
      refine XS.iand X0.here hx rfl (hb hby at_24) rfl ?_
      show Steps p.tables e below (s₁.setTop (mkF m 25 #[.val (.int p1), .val (.int p2), .val (.int p3), .val (.int p4), .val (.int p5), .val (.int p6), .val (.int ((p1 &&& (255 : Int32)) % (7 : Int32))), .unset, .unset, .unset, .unset, .unset, .unset, .unset, .unset, .unset, .unset, .unset, .unset, .unset, .unset, .unset] [(.int (((p1.toUInt32 >>> ((8 : Int32) &&& 31).toUInt32).toInt32) &&& (255 : Int32)))])) tg
      refine XS.bipush X0.here hx rfl (hb hby at_25) ?_
      show Steps p.tables e below (s₁.setTop (mkF m 27 #[.val (.int p1), .val (.int p2), .val (.int p3), .val (.int p4), .val (.int p5), .val (.int p6), .val (.int ((p1 &&& (255 : Int32)) % (7 : Int32))), .unset, .unset, .unset, .unset, .unset, .unset, .unset, .unset, .unset, .unset, .unset, .unset, .unset, .unset, .unset] [(.int (7 : Int32)), (.int (((p1.toUInt32 >>> ((8 : Int32) &&& 31).toUInt32).toInt32) &&& (255 : Int32)))])) tg
      refine iremM X0 hx rfl (hb hby at_27) rfl (by decide) ?_
      show Steps p.tables e below (s₁.setTop (mkF m 28 #[.val (.int p1), .val (.int p2), .val (.int p3), .val (.int p4), .val (.int p5), .val (.int p6), .val (.int ((p1 &&& (255 : Int32)) % (7 : Int32))), .unset, .unset, .unset, .unset, .unset, .unset, .unset, .unset, .unset, .unset, .unset, .unset, .unset, .unset, .unset] [(.int ((((p1.toUInt32 >>> ((8 : Int32) &&& 31).toUInt32).toInt32) &&& (255 : Int32)) % (7 : Int32)))])) tg
      refine XS.goto X0.here hx rfl (pc0 := 28) (pc' := 33) rfl (hb hby at_28) (by decide) (by decide) ?_
      exact kt
  have st6 : ∀ tg, Steps p.tables e below (s₁.setTop (mkF m 39 #[.val (.int p1), .val (.int p2), .val (.int p3), .val (.int p4), .val (.int p5), .val (.int p6), .val (.int ((p1 &&& (255 : Int32)) % (7 : Int32))), .val (.int v3), .unset, .unset, .unset, .unset, .unset, .unset, .unset, .unset, .unset, .unset, .unset, .unset, .unset, .unset] [(.int (p6 &&& (2 : Int32)))])) tg → Steps p.tables e below (s₁.setTop (mkF m 33 #[.val (.int p1), .val (.int p2), .val (.int p3), .val (.int p4), .val (.int p5), .val (.int p6), .val (.int ((p1 &&& (255 : Int32)) % (7 : Int32))), .unset, .unset, .unset, .unset, .unset, .unset, .unset, .unset, .unset, .unset, .unset, .unset, .unset, .unset, .unset] [(.int v3)])) tg := by
    intro tg kt
    show Steps p.tables e below (s₁.setTop (mkF m 33 #[.val (.int p1), .val (.int p2), .val (.int p3), .val (.int p4), .val (.int p5), .val (.int p6), .val (.int ((p1 &&& (255 : Int32)) % (7 : Int32))), .unset, .unset, .unset, .unset, .unset, .unset, .unset, .unset, .unset, .unset, .unset, .unset, .unset, .unset, .unset] [(.int v3)])) tg
    refine XS.istore X0.here hx rfl (hb hby at_33) rfl (l' := #[.val (.int p1), .val (.int p2), .val (.int p3), .val (.int p4), .val (.int p5), .val (.int p6), .val (.int ((p1 &&& (255 : Int32)) % (7 : Int32))), .val (.int v3), .unset, .unset, .unset, .unset, .unset, .unset, .unset, .unset, .unset, .unset, .unset, .unset, .unset, .unset]) rfl ?_
    show Steps p.tables e below (s₁.setTop (mkF m 35 #[.val (.int p1), .val (.int p2), .val (.int p3), .val (.int p4), .val (.int p5), .val (.int p6), .val (.int ((p1 &&& (255 : Int32)) % (7 : Int32))), .val (.int v3), .unset, .unset, .unset, .unset, .unset, .unset, .unset, .unset, .unset, .unset, .unset, .unset, .unset, .unset] [])) tg
    refine XS.iload X0.here hx rfl (hb hby at_35) rfl ?_
    show Steps p.tables e below (s₁.setTop (mkF m 37 #[.val (.int p1), .val (.int p2), .val (.int p3), .val (.int p4), .val (.int p5), .val (.int p6), .val (.int ((p1 &&& (255 : Int32)) % (7 : Int32))), .val (.int v3), .unset, .unset, .unset, .unset, .unset, .unset, .unset, .unset, .unset, .unset, .unset, .unset, .unset, .unset] [(.int p6)])) tg
    refine XS.iconst X0.here hx rfl (hb hby at_37) ?_
    show Steps p.tables e below (s₁.setTop (mkF m 38 #[.val (.int p1), .val (.int p2), .val (.int p3), .val (.int p4), .val (.int p5), .val (.int p6), .val (.int ((p1 &&& (255 : Int32)) % (7 : Int32))), .val (.int v3), .unset, .unset, .unset, .unset, .unset, .unset, .unset, .unset, .unset, .unset, .unset, .unset, .unset, .unset] [(.int (2 : Int32)), (.int p6)])) tg
    refine XS.iand X0.here hx rfl (hb hby at_38) rfl ?_
    exact kt
  obtain ⟨v7, hv7⟩ : ∃ z, z = if (p6 &&& (2 : Int32)) = 0 then (0 : Int32) else (1 : Int32) := ⟨_, rfl⟩
  have st8 : ∀ tg, Steps p.tables e below (s₁.setTop (mkF m 47 #[.val (.int p1), .val (.int p2), .val (.int p3), .val (.int p4), .val (.int p5), .val (.int p6), .val (.int ((p1 &&& (255 : Int32)) % (7 : Int32))), .val (.int v3), .unset, .unset, .unset, .unset, .unset, .unset, .unset, .unset, .unset, .unset, .unset, .unset, .unset, .unset] [(.int v7)])) tg → Steps p.tables e below (s₁.setTop (mkF m 39 #[.val (.int p1), .val (.int p2), .val (.int p3), .val (.int p4), .val (.int p5), .val (.int p6), .val (.int ((p1 &&& (255 : Int32)) % (7 : Int32))), .val (.int v3), .unset, .unset, .unset, .unset, .unset, .unset, .unset, .unset, .unset, .unset, .unset, .unset, .unset, .unset] [(.int (p6 &&& (2 : Int32)))])) tg := by
    intro tg kt
    by_cases hc39_5 : (p6 &&& (2 : Int32)) = 0
    · have qv7 : v7 = (0 : Int32) := hv7.trans (if_pos hc39_5)
      rw [qv7] at kt
      show Steps p.tables e below (s₁.setTop (mkF m 39 #[.val (.int p1), .val (.int p2), .val (.int p3), .val (.int p4), .val (.int p5), .val (.int p6), .val (.int ((p1 &&& (255 : Int32)) % (7 : Int32))), .val (.int v3), .unset, .unset, .unset, .unset, .unset, .unset, .unset, .unset, .unset, .unset, .unset, .unset, .unset, .unset] [(.int (p6 &&& (2 : Int32)))])) tg
      refine XS.ifYes X0.here hx rfl (pc0 := 39) (pc' := 46) rfl (hb hby at_39) rfl (XT.i0_eq_t hc39_5) (by decide) (by decide) ?_
      show Steps p.tables e below (s₁.setTop (mkF m 46 #[.val (.int p1), .val (.int p2), .val (.int p3), .val (.int p4), .val (.int p5), .val (.int p6), .val (.int ((p1 &&& (255 : Int32)) % (7 : Int32))), .val (.int v3), .unset, .unset, .unset, .unset, .unset, .unset, .unset, .unset, .unset, .unset, .unset, .unset, .unset, .unset] [])) tg
      refine XS.iconst X0.here hx rfl (hb hby at_46) ?_
      exact kt
    · have qv7 : v7 = (1 : Int32) := hv7.trans (if_neg hc39_5)
      rw [qv7] at kt
      show Steps p.tables e below (s₁.setTop (mkF m 39 #[.val (.int p1), .val (.int p2), .val (.int p3), .val (.int p4), .val (.int p5), .val (.int p6), .val (.int ((p1 &&& (255 : Int32)) % (7 : Int32))), .val (.int v3), .unset, .unset, .unset, .unset, .unset, .unset, .unset, .unset, .unset, .unset, .unset, .unset, .unset, .unset] [(.int (p6 &&& (2 : Int32)))])) tg
      refine XS.ifNo X0.here hx rfl (hb hby at_39) rfl (XT.i0_eq_f hc39_5) ?_
      show Steps p.tables e below (s₁.setTop (mkF m 42 #[.val (.int p1), .val (.int p2), .val (.int p3), .val (.int p4), .val (.int p5), .val (.int p6), .val (.int ((p1 &&& (255 : Int32)) % (7 : Int32))), .val (.int v3), .unset, .unset, .unset, .unset, .unset, .unset, .unset, .unset, .unset, .unset, .unset, .unset, .unset, .unset] [])) tg
      refine XS.iconst X0.here hx rfl (hb hby at_42) ?_
      show Steps p.tables e below (s₁.setTop (mkF m 43 #[.val (.int p1), .val (.int p2), .val (.int p3), .val (.int p4), .val (.int p5), .val (.int p6), .val (.int ((p1 &&& (255 : Int32)) % (7 : Int32))), .val (.int v3), .unset, .unset, .unset, .unset, .unset, .unset, .unset, .unset, .unset, .unset, .unset, .unset, .unset, .unset] [(.int (1 : Int32))])) tg
      refine XS.goto X0.here hx rfl (pc0 := 43) (pc' := 47) rfl (hb hby at_43) (by decide) (by decide) ?_
      exact kt
  have st10 : ∀ tg, Steps p.tables e below (s₁.setTop (mkF m 53 #[.val (.int p1), .val (.int p2), .val (.int p3), .val (.int p4), .val (.int p5), .val (.int p6), .val (.int ((p1 &&& (255 : Int32)) % (7 : Int32))), .val (.int v3), .val (.int v7), .unset, .unset, .unset, .unset, .unset, .unset, .unset, .unset, .unset, .unset, .unset, .unset, .unset] [(.int (p6 &&& (4 : Int32)))])) tg → Steps p.tables e below (s₁.setTop (mkF m 47 #[.val (.int p1), .val (.int p2), .val (.int p3), .val (.int p4), .val (.int p5), .val (.int p6), .val (.int ((p1 &&& (255 : Int32)) % (7 : Int32))), .val (.int v3), .unset, .unset, .unset, .unset, .unset, .unset, .unset, .unset, .unset, .unset, .unset, .unset, .unset, .unset] [(.int v7)])) tg := by
    intro tg kt
    show Steps p.tables e below (s₁.setTop (mkF m 47 #[.val (.int p1), .val (.int p2), .val (.int p3), .val (.int p4), .val (.int p5), .val (.int p6), .val (.int ((p1 &&& (255 : Int32)) % (7 : Int32))), .val (.int v3), .unset, .unset, .unset, .unset, .unset, .unset, .unset, .unset, .unset, .unset, .unset, .unset, .unset, .unset] [(.int v7)])) tg
    refine XS.istore X0.here hx rfl (hb hby at_47) rfl (l' := #[.val (.int p1), .val (.int p2), .val (.int p3), .val (.int p4), .val (.int p5), .val (.int p6), .val (.int ((p1 &&& (255 : Int32)) % (7 : Int32))), .val (.int v3), .val (.int v7), .unset, .unset, .unset, .unset, .unset, .unset, .unset, .unset, .unset, .unset, .unset, .unset, .unset]) rfl ?_
    show Steps p.tables e below (s₁.setTop (mkF m 49 #[.val (.int p1), .val (.int p2), .val (.int p3), .val (.int p4), .val (.int p5), .val (.int p6), .val (.int ((p1 &&& (255 : Int32)) % (7 : Int32))), .val (.int v3), .val (.int v7), .unset, .unset, .unset, .unset, .unset, .unset, .unset, .unset, .unset, .unset, .unset, .unset, .unset] [])) tg
    refine XS.iload X0.here hx rfl (hb hby at_49) rfl ?_
    show Steps p.tables e below (s₁.setTop (mkF m 51 #[.val (.int p1), .val (.int p2), .val (.int p3), .val (.int p4), .val (.int p5), .val (.int p6), .val (.int ((p1 &&& (255 : Int32)) % (7 : Int32))), .val (.int v3), .val (.int v7), .unset, .unset, .unset, .unset, .unset, .unset, .unset, .unset, .unset, .unset, .unset, .unset, .unset] [(.int p6)])) tg
    refine XS.iconst X0.here hx rfl (hb hby at_51) ?_
    show Steps p.tables e below (s₁.setTop (mkF m 52 #[.val (.int p1), .val (.int p2), .val (.int p3), .val (.int p4), .val (.int p5), .val (.int p6), .val (.int ((p1 &&& (255 : Int32)) % (7 : Int32))), .val (.int v3), .val (.int v7), .unset, .unset, .unset, .unset, .unset, .unset, .unset, .unset, .unset, .unset, .unset, .unset, .unset] [(.int (4 : Int32)), (.int p6)])) tg
    refine XS.iand X0.here hx rfl (hb hby at_52) rfl ?_
    exact kt
  obtain ⟨v11, hv11⟩ : ∃ z, z = if (p6 &&& (4 : Int32)) = 0 then (0 : Int32) else (1 : Int32) := ⟨_, rfl⟩
  have st12 : ∀ tg, Steps p.tables e below (s₁.setTop (mkF m 61 #[.val (.int p1), .val (.int p2), .val (.int p3), .val (.int p4), .val (.int p5), .val (.int p6), .val (.int ((p1 &&& (255 : Int32)) % (7 : Int32))), .val (.int v3), .val (.int v7), .unset, .unset, .unset, .unset, .unset, .unset, .unset, .unset, .unset, .unset, .unset, .unset, .unset] [(.int v11)])) tg → Steps p.tables e below (s₁.setTop (mkF m 53 #[.val (.int p1), .val (.int p2), .val (.int p3), .val (.int p4), .val (.int p5), .val (.int p6), .val (.int ((p1 &&& (255 : Int32)) % (7 : Int32))), .val (.int v3), .val (.int v7), .unset, .unset, .unset, .unset, .unset, .unset, .unset, .unset, .unset, .unset, .unset, .unset, .unset] [(.int (p6 &&& (4 : Int32)))])) tg := by
    intro tg kt
    by_cases hc53_9 : (p6 &&& (4 : Int32)) = 0
    · have qv11 : v11 = (0 : Int32) := hv11.trans (if_pos hc53_9)
      rw [qv11] at kt
      show Steps p.tables e below (s₁.setTop (mkF m 53 #[.val (.int p1), .val (.int p2), .val (.int p3), .val (.int p4), .val (.int p5), .val (.int p6), .val (.int ((p1 &&& (255 : Int32)) % (7 : Int32))), .val (.int v3), .val (.int v7), .unset, .unset, .unset, .unset, .unset, .unset, .unset, .unset, .unset, .unset, .unset, .unset, .unset] [(.int (p6 &&& (4 : Int32)))])) tg
      refine XS.ifYes X0.here hx rfl (pc0 := 53) (pc' := 60) rfl (hb hby at_53) rfl (XT.i0_eq_t hc53_9) (by decide) (by decide) ?_
      show Steps p.tables e below (s₁.setTop (mkF m 60 #[.val (.int p1), .val (.int p2), .val (.int p3), .val (.int p4), .val (.int p5), .val (.int p6), .val (.int ((p1 &&& (255 : Int32)) % (7 : Int32))), .val (.int v3), .val (.int v7), .unset, .unset, .unset, .unset, .unset, .unset, .unset, .unset, .unset, .unset, .unset, .unset, .unset] [])) tg
      refine XS.iconst X0.here hx rfl (hb hby at_60) ?_
      exact kt
    · have qv11 : v11 = (1 : Int32) := hv11.trans (if_neg hc53_9)
      rw [qv11] at kt
      show Steps p.tables e below (s₁.setTop (mkF m 53 #[.val (.int p1), .val (.int p2), .val (.int p3), .val (.int p4), .val (.int p5), .val (.int p6), .val (.int ((p1 &&& (255 : Int32)) % (7 : Int32))), .val (.int v3), .val (.int v7), .unset, .unset, .unset, .unset, .unset, .unset, .unset, .unset, .unset, .unset, .unset, .unset, .unset] [(.int (p6 &&& (4 : Int32)))])) tg
      refine XS.ifNo X0.here hx rfl (hb hby at_53) rfl (XT.i0_eq_f hc53_9) ?_
      show Steps p.tables e below (s₁.setTop (mkF m 56 #[.val (.int p1), .val (.int p2), .val (.int p3), .val (.int p4), .val (.int p5), .val (.int p6), .val (.int ((p1 &&& (255 : Int32)) % (7 : Int32))), .val (.int v3), .val (.int v7), .unset, .unset, .unset, .unset, .unset, .unset, .unset, .unset, .unset, .unset, .unset, .unset, .unset] [])) tg
      refine XS.iconst X0.here hx rfl (hb hby at_56) ?_
      show Steps p.tables e below (s₁.setTop (mkF m 57 #[.val (.int p1), .val (.int p2), .val (.int p3), .val (.int p4), .val (.int p5), .val (.int p6), .val (.int ((p1 &&& (255 : Int32)) % (7 : Int32))), .val (.int v3), .val (.int v7), .unset, .unset, .unset, .unset, .unset, .unset, .unset, .unset, .unset, .unset, .unset, .unset, .unset] [(.int (1 : Int32))])) tg
      refine XS.goto X0.here hx rfl (pc0 := 57) (pc' := 61) rfl (hb hby at_57) (by decide) (by decide) ?_
      exact kt
  have st14 : ∀ tg, Steps p.tables e below (s₁.setTop (mkF m 68 #[.val (.int p1), .val (.int p2), .val (.int p3), .val (.int p4), .val (.int p5), .val (.int p6), .val (.int ((p1 &&& (255 : Int32)) % (7 : Int32))), .val (.int v3), .val (.int v7), .val (.int v11), .unset, .unset, .unset, .unset, .unset, .unset, .unset, .unset, .unset, .unset, .unset, .unset] [(.int (p6 &&& (8 : Int32)))])) tg → Steps p.tables e below (s₁.setTop (mkF m 61 #[.val (.int p1), .val (.int p2), .val (.int p3), .val (.int p4), .val (.int p5), .val (.int p6), .val (.int ((p1 &&& (255 : Int32)) % (7 : Int32))), .val (.int v3), .val (.int v7), .unset, .unset, .unset, .unset, .unset, .unset, .unset, .unset, .unset, .unset, .unset, .unset, .unset] [(.int v11)])) tg := by
    intro tg kt
    show Steps p.tables e below (s₁.setTop (mkF m 61 #[.val (.int p1), .val (.int p2), .val (.int p3), .val (.int p4), .val (.int p5), .val (.int p6), .val (.int ((p1 &&& (255 : Int32)) % (7 : Int32))), .val (.int v3), .val (.int v7), .unset, .unset, .unset, .unset, .unset, .unset, .unset, .unset, .unset, .unset, .unset, .unset, .unset] [(.int v11)])) tg
    refine XS.istore X0.here hx rfl (hb hby at_61) rfl (l' := #[.val (.int p1), .val (.int p2), .val (.int p3), .val (.int p4), .val (.int p5), .val (.int p6), .val (.int ((p1 &&& (255 : Int32)) % (7 : Int32))), .val (.int v3), .val (.int v7), .val (.int v11), .unset, .unset, .unset, .unset, .unset, .unset, .unset, .unset, .unset, .unset, .unset, .unset]) rfl ?_
    show Steps p.tables e below (s₁.setTop (mkF m 63 #[.val (.int p1), .val (.int p2), .val (.int p3), .val (.int p4), .val (.int p5), .val (.int p6), .val (.int ((p1 &&& (255 : Int32)) % (7 : Int32))), .val (.int v3), .val (.int v7), .val (.int v11), .unset, .unset, .unset, .unset, .unset, .unset, .unset, .unset, .unset, .unset, .unset, .unset] [])) tg
    refine XS.iload X0.here hx rfl (hb hby at_63) rfl ?_
    show Steps p.tables e below (s₁.setTop (mkF m 65 #[.val (.int p1), .val (.int p2), .val (.int p3), .val (.int p4), .val (.int p5), .val (.int p6), .val (.int ((p1 &&& (255 : Int32)) % (7 : Int32))), .val (.int v3), .val (.int v7), .val (.int v11), .unset, .unset, .unset, .unset, .unset, .unset, .unset, .unset, .unset, .unset, .unset, .unset] [(.int p6)])) tg
    refine XS.bipush X0.here hx rfl (hb hby at_65) ?_
    show Steps p.tables e below (s₁.setTop (mkF m 67 #[.val (.int p1), .val (.int p2), .val (.int p3), .val (.int p4), .val (.int p5), .val (.int p6), .val (.int ((p1 &&& (255 : Int32)) % (7 : Int32))), .val (.int v3), .val (.int v7), .val (.int v11), .unset, .unset, .unset, .unset, .unset, .unset, .unset, .unset, .unset, .unset, .unset, .unset] [(.int (8 : Int32)), (.int p6)])) tg
    refine XS.iand X0.here hx rfl (hb hby at_67) rfl ?_
    exact kt
  obtain ⟨v15, hv15⟩ : ∃ z, z = if (p6 &&& (8 : Int32)) = 0 then (0 : Int32) else (1 : Int32) := ⟨_, rfl⟩
  have st16 : ∀ tg, Steps p.tables e below (s₁.setTop (mkF m 76 #[.val (.int p1), .val (.int p2), .val (.int p3), .val (.int p4), .val (.int p5), .val (.int p6), .val (.int ((p1 &&& (255 : Int32)) % (7 : Int32))), .val (.int v3), .val (.int v7), .val (.int v11), .unset, .unset, .unset, .unset, .unset, .unset, .unset, .unset, .unset, .unset, .unset, .unset] [(.int v15)])) tg → Steps p.tables e below (s₁.setTop (mkF m 68 #[.val (.int p1), .val (.int p2), .val (.int p3), .val (.int p4), .val (.int p5), .val (.int p6), .val (.int ((p1 &&& (255 : Int32)) % (7 : Int32))), .val (.int v3), .val (.int v7), .val (.int v11), .unset, .unset, .unset, .unset, .unset, .unset, .unset, .unset, .unset, .unset, .unset, .unset] [(.int (p6 &&& (8 : Int32)))])) tg := by
    intro tg kt
    by_cases hc68_13 : (p6 &&& (8 : Int32)) = 0
    · have qv15 : v15 = (0 : Int32) := hv15.trans (if_pos hc68_13)
      rw [qv15] at kt
      show Steps p.tables e below (s₁.setTop (mkF m 68 #[.val (.int p1), .val (.int p2), .val (.int p3), .val (.int p4), .val (.int p5), .val (.int p6), .val (.int ((p1 &&& (255 : Int32)) % (7 : Int32))), .val (.int v3), .val (.int v7), .val (.int v11), .unset, .unset, .unset, .unset, .unset, .unset, .unset, .unset, .unset, .unset, .unset, .unset] [(.int (p6 &&& (8 : Int32)))])) tg
      refine XS.ifYes X0.here hx rfl (pc0 := 68) (pc' := 75) rfl (hb hby at_68) rfl (XT.i0_eq_t hc68_13) (by decide) (by decide) ?_
      show Steps p.tables e below (s₁.setTop (mkF m 75 #[.val (.int p1), .val (.int p2), .val (.int p3), .val (.int p4), .val (.int p5), .val (.int p6), .val (.int ((p1 &&& (255 : Int32)) % (7 : Int32))), .val (.int v3), .val (.int v7), .val (.int v11), .unset, .unset, .unset, .unset, .unset, .unset, .unset, .unset, .unset, .unset, .unset, .unset] [])) tg
      refine XS.iconst X0.here hx rfl (hb hby at_75) ?_
      exact kt
    · have qv15 : v15 = (1 : Int32) := hv15.trans (if_neg hc68_13)
      rw [qv15] at kt
      show Steps p.tables e below (s₁.setTop (mkF m 68 #[.val (.int p1), .val (.int p2), .val (.int p3), .val (.int p4), .val (.int p5), .val (.int p6), .val (.int ((p1 &&& (255 : Int32)) % (7 : Int32))), .val (.int v3), .val (.int v7), .val (.int v11), .unset, .unset, .unset, .unset, .unset, .unset, .unset, .unset, .unset, .unset, .unset, .unset] [(.int (p6 &&& (8 : Int32)))])) tg
      refine XS.ifNo X0.here hx rfl (hb hby at_68) rfl (XT.i0_eq_f hc68_13) ?_
      show Steps p.tables e below (s₁.setTop (mkF m 71 #[.val (.int p1), .val (.int p2), .val (.int p3), .val (.int p4), .val (.int p5), .val (.int p6), .val (.int ((p1 &&& (255 : Int32)) % (7 : Int32))), .val (.int v3), .val (.int v7), .val (.int v11), .unset, .unset, .unset, .unset, .unset, .unset, .unset, .unset, .unset, .unset, .unset, .unset] [])) tg
      refine XS.iconst X0.here hx rfl (hb hby at_71) ?_
      show Steps p.tables e below (s₁.setTop (mkF m 72 #[.val (.int p1), .val (.int p2), .val (.int p3), .val (.int p4), .val (.int p5), .val (.int p6), .val (.int ((p1 &&& (255 : Int32)) % (7 : Int32))), .val (.int v3), .val (.int v7), .val (.int v11), .unset, .unset, .unset, .unset, .unset, .unset, .unset, .unset, .unset, .unset, .unset, .unset] [(.int (1 : Int32))])) tg
      refine XS.goto X0.here hx rfl (pc0 := 72) (pc' := 76) rfl (hb hby at_72) (by decide) (by decide) ?_
      exact kt
  have st18 : ∀ tg, Steps p.tables e below (s₁.setTop (mkF m 80 #[.val (.int p1), .val (.int p2), .val (.int p3), .val (.int p4), .val (.int p5), .val (.int p6), .val (.int ((p1 &&& (255 : Int32)) % (7 : Int32))), .val (.int v3), .val (.int v7), .val (.int v11), .val (.int v15), .unset, .unset, .unset, .unset, .unset, .unset, .unset, .unset, .unset, .unset, .unset] [(.int v7)])) tg → Steps p.tables e below (s₁.setTop (mkF m 76 #[.val (.int p1), .val (.int p2), .val (.int p3), .val (.int p4), .val (.int p5), .val (.int p6), .val (.int ((p1 &&& (255 : Int32)) % (7 : Int32))), .val (.int v3), .val (.int v7), .val (.int v11), .unset, .unset, .unset, .unset, .unset, .unset, .unset, .unset, .unset, .unset, .unset, .unset] [(.int v15)])) tg := by
    intro tg kt
    show Steps p.tables e below (s₁.setTop (mkF m 76 #[.val (.int p1), .val (.int p2), .val (.int p3), .val (.int p4), .val (.int p5), .val (.int p6), .val (.int ((p1 &&& (255 : Int32)) % (7 : Int32))), .val (.int v3), .val (.int v7), .val (.int v11), .unset, .unset, .unset, .unset, .unset, .unset, .unset, .unset, .unset, .unset, .unset, .unset] [(.int v15)])) tg
    refine XS.istore X0.here hx rfl (hb hby at_76) rfl (l' := #[.val (.int p1), .val (.int p2), .val (.int p3), .val (.int p4), .val (.int p5), .val (.int p6), .val (.int ((p1 &&& (255 : Int32)) % (7 : Int32))), .val (.int v3), .val (.int v7), .val (.int v11), .val (.int v15), .unset, .unset, .unset, .unset, .unset, .unset, .unset, .unset, .unset, .unset, .unset]) rfl ?_
    show Steps p.tables e below (s₁.setTop (mkF m 78 #[.val (.int p1), .val (.int p2), .val (.int p3), .val (.int p4), .val (.int p5), .val (.int p6), .val (.int ((p1 &&& (255 : Int32)) % (7 : Int32))), .val (.int v3), .val (.int v7), .val (.int v11), .val (.int v15), .unset, .unset, .unset, .unset, .unset, .unset, .unset, .unset, .unset, .unset, .unset] [])) tg
    refine XS.iload X0.here hx rfl (hb hby at_78) rfl ?_
    exact kt
  obtain ⟨v19, hv19⟩ : ∃ z, z = if v7 = 0 then p2 else (p2 + p5) := ⟨_, rfl⟩
  have st20 : ∀ tg, Steps p.tables e below (s₁.setTop (mkF m 91 #[.val (.int p1), .val (.int p2), .val (.int p3), .val (.int p4), .val (.int p5), .val (.int p6), .val (.int ((p1 &&& (255 : Int32)) % (7 : Int32))), .val (.int v3), .val (.int v7), .val (.int v11), .val (.int v15), .unset, .unset, .unset, .unset, .unset, .unset, .unset, .unset, .unset, .unset, .unset] [(.int v19)])) tg → Steps p.tables e below (s₁.setTop (mkF m 80 #[.val (.int p1), .val (.int p2), .val (.int p3), .val (.int p4), .val (.int p5), .val (.int p6), .val (.int ((p1 &&& (255 : Int32)) % (7 : Int32))), .val (.int v3), .val (.int v7), .val (.int v11), .val (.int v15), .unset, .unset, .unset, .unset, .unset, .unset, .unset, .unset, .unset, .unset, .unset] [(.int v7)])) tg := by
    intro tg kt
    by_cases hc80_17 : v7 = 0
    · have qv19 : v19 = p2 := hv19.trans (if_pos hc80_17)
      rw [qv19] at kt
      show Steps p.tables e below (s₁.setTop (mkF m 80 #[.val (.int p1), .val (.int p2), .val (.int p3), .val (.int p4), .val (.int p5), .val (.int p6), .val (.int ((p1 &&& (255 : Int32)) % (7 : Int32))), .val (.int v3), .val (.int v7), .val (.int v11), .val (.int v15), .unset, .unset, .unset, .unset, .unset, .unset, .unset, .unset, .unset, .unset, .unset] [(.int v7)])) tg
      refine XS.ifYes X0.here hx rfl (pc0 := 80) (pc' := 90) rfl (hb hby at_80) rfl (XT.i0_eq_t hc80_17) (by decide) (by decide) ?_
      show Steps p.tables e below (s₁.setTop (mkF m 90 #[.val (.int p1), .val (.int p2), .val (.int p3), .val (.int p4), .val (.int p5), .val (.int p6), .val (.int ((p1 &&& (255 : Int32)) % (7 : Int32))), .val (.int v3), .val (.int v7), .val (.int v11), .val (.int v15), .unset, .unset, .unset, .unset, .unset, .unset, .unset, .unset, .unset, .unset, .unset] [])) tg
      refine XS.iloadN X0.here hx rfl (hb hby at_90) rfl ?_
      exact kt
    · have qv19 : v19 = (p2 + p5) := hv19.trans (if_neg hc80_17)
      rw [qv19] at kt
      show Steps p.tables e below (s₁.setTop (mkF m 80 #[.val (.int p1), .val (.int p2), .val (.int p3), .val (.int p4), .val (.int p5), .val (.int p6), .val (.int ((p1 &&& (255 : Int32)) % (7 : Int32))), .val (.int v3), .val (.int v7), .val (.int v11), .val (.int v15), .unset, .unset, .unset, .unset, .unset, .unset, .unset, .unset, .unset, .unset, .unset] [(.int v7)])) tg
      refine XS.ifNo X0.here hx rfl (hb hby at_80) rfl (XT.i0_eq_f hc80_17) ?_
      show Steps p.tables e below (s₁.setTop (mkF m 83 #[.val (.int p1), .val (.int p2), .val (.int p3), .val (.int p4), .val (.int p5), .val (.int p6), .val (.int ((p1 &&& (255 : Int32)) % (7 : Int32))), .val (.int v3), .val (.int v7), .val (.int v11), .val (.int v15), .unset, .unset, .unset, .unset, .unset, .unset, .unset, .unset, .unset, .unset, .unset] [])) tg
      refine XS.iloadN X0.here hx rfl (hb hby at_83) rfl ?_
      show Steps p.tables e below (s₁.setTop (mkF m 84 #[.val (.int p1), .val (.int p2), .val (.int p3), .val (.int p4), .val (.int p5), .val (.int p6), .val (.int ((p1 &&& (255 : Int32)) % (7 : Int32))), .val (.int v3), .val (.int v7), .val (.int v11), .val (.int v15), .unset, .unset, .unset, .unset, .unset, .unset, .unset, .unset, .unset, .unset, .unset] [(.int p2)])) tg
      refine XS.iload X0.here hx rfl (hb hby at_84) rfl ?_
      show Steps p.tables e below (s₁.setTop (mkF m 86 #[.val (.int p1), .val (.int p2), .val (.int p3), .val (.int p4), .val (.int p5), .val (.int p6), .val (.int ((p1 &&& (255 : Int32)) % (7 : Int32))), .val (.int v3), .val (.int v7), .val (.int v11), .val (.int v15), .unset, .unset, .unset, .unset, .unset, .unset, .unset, .unset, .unset, .unset, .unset] [(.int p5), (.int p2)])) tg
      refine XS.iadd X0.here hx rfl (hb hby at_86) rfl ?_
      show Steps p.tables e below (s₁.setTop (mkF m 87 #[.val (.int p1), .val (.int p2), .val (.int p3), .val (.int p4), .val (.int p5), .val (.int p6), .val (.int ((p1 &&& (255 : Int32)) % (7 : Int32))), .val (.int v3), .val (.int v7), .val (.int v11), .val (.int v15), .unset, .unset, .unset, .unset, .unset, .unset, .unset, .unset, .unset, .unset, .unset] [(.int (p2 + p5))])) tg
      refine XS.goto X0.here hx rfl (pc0 := 87) (pc' := 91) rfl (hb hby at_87) (by decide) (by decide) ?_
      exact kt
  have st22 : ∀ tg, Steps p.tables e below (s₁.setTop (mkF m 95 #[.val (.int p1), .val (.int p2), .val (.int p3), .val (.int p4), .val (.int p5), .val (.int p6), .val (.int ((p1 &&& (255 : Int32)) % (7 : Int32))), .val (.int v3), .val (.int v7), .val (.int v11), .val (.int v15), .val (.int v19), .unset, .unset, .unset, .unset, .unset, .unset, .unset, .unset, .unset, .unset] [(.int v11)])) tg → Steps p.tables e below (s₁.setTop (mkF m 91 #[.val (.int p1), .val (.int p2), .val (.int p3), .val (.int p4), .val (.int p5), .val (.int p6), .val (.int ((p1 &&& (255 : Int32)) % (7 : Int32))), .val (.int v3), .val (.int v7), .val (.int v11), .val (.int v15), .unset, .unset, .unset, .unset, .unset, .unset, .unset, .unset, .unset, .unset, .unset] [(.int v19)])) tg := by
    intro tg kt
    show Steps p.tables e below (s₁.setTop (mkF m 91 #[.val (.int p1), .val (.int p2), .val (.int p3), .val (.int p4), .val (.int p5), .val (.int p6), .val (.int ((p1 &&& (255 : Int32)) % (7 : Int32))), .val (.int v3), .val (.int v7), .val (.int v11), .val (.int v15), .unset, .unset, .unset, .unset, .unset, .unset, .unset, .unset, .unset, .unset, .unset] [(.int v19)])) tg
    refine XS.istore X0.here hx rfl (hb hby at_91) rfl (l' := #[.val (.int p1), .val (.int p2), .val (.int p3), .val (.int p4), .val (.int p5), .val (.int p6), .val (.int ((p1 &&& (255 : Int32)) % (7 : Int32))), .val (.int v3), .val (.int v7), .val (.int v11), .val (.int v15), .val (.int v19), .unset, .unset, .unset, .unset, .unset, .unset, .unset, .unset, .unset, .unset]) rfl ?_
    show Steps p.tables e below (s₁.setTop (mkF m 93 #[.val (.int p1), .val (.int p2), .val (.int p3), .val (.int p4), .val (.int p5), .val (.int p6), .val (.int ((p1 &&& (255 : Int32)) % (7 : Int32))), .val (.int v3), .val (.int v7), .val (.int v11), .val (.int v15), .val (.int v19), .unset, .unset, .unset, .unset, .unset, .unset, .unset, .unset, .unset, .unset] [])) tg
    refine XS.iload X0.here hx rfl (hb hby at_93) rfl ?_
    exact kt
  obtain ⟨v23, hv23⟩ : ∃ z, z = if v11 = 0 then p3 else (p3 + p5) := ⟨_, rfl⟩
  have st24 : ∀ tg, Steps p.tables e below (s₁.setTop (mkF m 106 #[.val (.int p1), .val (.int p2), .val (.int p3), .val (.int p4), .val (.int p5), .val (.int p6), .val (.int ((p1 &&& (255 : Int32)) % (7 : Int32))), .val (.int v3), .val (.int v7), .val (.int v11), .val (.int v15), .val (.int v19), .unset, .unset, .unset, .unset, .unset, .unset, .unset, .unset, .unset, .unset] [(.int v23)])) tg → Steps p.tables e below (s₁.setTop (mkF m 95 #[.val (.int p1), .val (.int p2), .val (.int p3), .val (.int p4), .val (.int p5), .val (.int p6), .val (.int ((p1 &&& (255 : Int32)) % (7 : Int32))), .val (.int v3), .val (.int v7), .val (.int v11), .val (.int v15), .val (.int v19), .unset, .unset, .unset, .unset, .unset, .unset, .unset, .unset, .unset, .unset] [(.int v11)])) tg := by
    intro tg kt
    by_cases hc95_21 : v11 = 0
    · have qv23 : v23 = p3 := hv23.trans (if_pos hc95_21)
      rw [qv23] at kt
      show Steps p.tables e below (s₁.setTop (mkF m 95 #[.val (.int p1), .val (.int p2), .val (.int p3), .val (.int p4), .val (.int p5), .val (.int p6), .val (.int ((p1 &&& (255 : Int32)) % (7 : Int32))), .val (.int v3), .val (.int v7), .val (.int v11), .val (.int v15), .val (.int v19), .unset, .unset, .unset, .unset, .unset, .unset, .unset, .unset, .unset, .unset] [(.int v11)])) tg
      refine XS.ifYes X0.here hx rfl (pc0 := 95) (pc' := 105) rfl (hb hby at_95) rfl (XT.i0_eq_t hc95_21) (by decide) (by decide) ?_
      show Steps p.tables e below (s₁.setTop (mkF m 105 #[.val (.int p1), .val (.int p2), .val (.int p3), .val (.int p4), .val (.int p5), .val (.int p6), .val (.int ((p1 &&& (255 : Int32)) % (7 : Int32))), .val (.int v3), .val (.int v7), .val (.int v11), .val (.int v15), .val (.int v19), .unset, .unset, .unset, .unset, .unset, .unset, .unset, .unset, .unset, .unset] [])) tg
      refine XS.iloadN X0.here hx rfl (hb hby at_105) rfl ?_
      exact kt
    · have qv23 : v23 = (p3 + p5) := hv23.trans (if_neg hc95_21)
      rw [qv23] at kt
      show Steps p.tables e below (s₁.setTop (mkF m 95 #[.val (.int p1), .val (.int p2), .val (.int p3), .val (.int p4), .val (.int p5), .val (.int p6), .val (.int ((p1 &&& (255 : Int32)) % (7 : Int32))), .val (.int v3), .val (.int v7), .val (.int v11), .val (.int v15), .val (.int v19), .unset, .unset, .unset, .unset, .unset, .unset, .unset, .unset, .unset, .unset] [(.int v11)])) tg
      refine XS.ifNo X0.here hx rfl (hb hby at_95) rfl (XT.i0_eq_f hc95_21) ?_
      show Steps p.tables e below (s₁.setTop (mkF m 98 #[.val (.int p1), .val (.int p2), .val (.int p3), .val (.int p4), .val (.int p5), .val (.int p6), .val (.int ((p1 &&& (255 : Int32)) % (7 : Int32))), .val (.int v3), .val (.int v7), .val (.int v11), .val (.int v15), .val (.int v19), .unset, .unset, .unset, .unset, .unset, .unset, .unset, .unset, .unset, .unset] [])) tg
      refine XS.iloadN X0.here hx rfl (hb hby at_98) rfl ?_
      show Steps p.tables e below (s₁.setTop (mkF m 99 #[.val (.int p1), .val (.int p2), .val (.int p3), .val (.int p4), .val (.int p5), .val (.int p6), .val (.int ((p1 &&& (255 : Int32)) % (7 : Int32))), .val (.int v3), .val (.int v7), .val (.int v11), .val (.int v15), .val (.int v19), .unset, .unset, .unset, .unset, .unset, .unset, .unset, .unset, .unset, .unset] [(.int p3)])) tg
      refine XS.iload X0.here hx rfl (hb hby at_99) rfl ?_
      show Steps p.tables e below (s₁.setTop (mkF m 101 #[.val (.int p1), .val (.int p2), .val (.int p3), .val (.int p4), .val (.int p5), .val (.int p6), .val (.int ((p1 &&& (255 : Int32)) % (7 : Int32))), .val (.int v3), .val (.int v7), .val (.int v11), .val (.int v15), .val (.int v19), .unset, .unset, .unset, .unset, .unset, .unset, .unset, .unset, .unset, .unset] [(.int p5), (.int p3)])) tg
      refine XS.iadd X0.here hx rfl (hb hby at_101) rfl ?_
      show Steps p.tables e below (s₁.setTop (mkF m 102 #[.val (.int p1), .val (.int p2), .val (.int p3), .val (.int p4), .val (.int p5), .val (.int p6), .val (.int ((p1 &&& (255 : Int32)) % (7 : Int32))), .val (.int v3), .val (.int v7), .val (.int v11), .val (.int v15), .val (.int v19), .unset, .unset, .unset, .unset, .unset, .unset, .unset, .unset, .unset, .unset] [(.int (p3 + p5))])) tg
      refine XS.goto X0.here hx rfl (pc0 := 102) (pc' := 106) rfl (hb hby at_102) (by decide) (by decide) ?_
      exact kt
  have st26 : ∀ tg, Steps p.tables e below (s₁.setTop (mkF m 110 #[.val (.int p1), .val (.int p2), .val (.int p3), .val (.int p4), .val (.int p5), .val (.int p6), .val (.int ((p1 &&& (255 : Int32)) % (7 : Int32))), .val (.int v3), .val (.int v7), .val (.int v11), .val (.int v15), .val (.int v19), .val (.int v23), .unset, .unset, .unset, .unset, .unset, .unset, .unset, .unset, .unset] [(.int v15)])) tg → Steps p.tables e below (s₁.setTop (mkF m 106 #[.val (.int p1), .val (.int p2), .val (.int p3), .val (.int p4), .val (.int p5), .val (.int p6), .val (.int ((p1 &&& (255 : Int32)) % (7 : Int32))), .val (.int v3), .val (.int v7), .val (.int v11), .val (.int v15), .val (.int v19), .unset, .unset, .unset, .unset, .unset, .unset, .unset, .unset, .unset, .unset] [(.int v23)])) tg := by
    intro tg kt
    show Steps p.tables e below (s₁.setTop (mkF m 106 #[.val (.int p1), .val (.int p2), .val (.int p3), .val (.int p4), .val (.int p5), .val (.int p6), .val (.int ((p1 &&& (255 : Int32)) % (7 : Int32))), .val (.int v3), .val (.int v7), .val (.int v11), .val (.int v15), .val (.int v19), .unset, .unset, .unset, .unset, .unset, .unset, .unset, .unset, .unset, .unset] [(.int v23)])) tg
    refine XS.istore X0.here hx rfl (hb hby at_106) rfl (l' := #[.val (.int p1), .val (.int p2), .val (.int p3), .val (.int p4), .val (.int p5), .val (.int p6), .val (.int ((p1 &&& (255 : Int32)) % (7 : Int32))), .val (.int v3), .val (.int v7), .val (.int v11), .val (.int v15), .val (.int v19), .val (.int v23), .unset, .unset, .unset, .unset, .unset, .unset, .unset, .unset, .unset]) rfl ?_
    show Steps p.tables e below (s₁.setTop (mkF m 108 #[.val (.int p1), .val (.int p2), .val (.int p3), .val (.int p4), .val (.int p5), .val (.int p6), .val (.int ((p1 &&& (255 : Int32)) % (7 : Int32))), .val (.int v3), .val (.int v7), .val (.int v11), .val (.int v15), .val (.int v19), .val (.int v23), .unset, .unset, .unset, .unset, .unset, .unset, .unset, .unset, .unset] [])) tg
    refine XS.iload X0.here hx rfl (hb hby at_108) rfl ?_
    exact kt
  obtain ⟨v27, hv27⟩ : ∃ z, z = if v15 = 0 then p4 else (p4 + p5) := ⟨_, rfl⟩
  have st28 : ∀ tg, Steps p.tables e below (s₁.setTop (mkF m 121 #[.val (.int p1), .val (.int p2), .val (.int p3), .val (.int p4), .val (.int p5), .val (.int p6), .val (.int ((p1 &&& (255 : Int32)) % (7 : Int32))), .val (.int v3), .val (.int v7), .val (.int v11), .val (.int v15), .val (.int v19), .val (.int v23), .unset, .unset, .unset, .unset, .unset, .unset, .unset, .unset, .unset] [(.int v27)])) tg → Steps p.tables e below (s₁.setTop (mkF m 110 #[.val (.int p1), .val (.int p2), .val (.int p3), .val (.int p4), .val (.int p5), .val (.int p6), .val (.int ((p1 &&& (255 : Int32)) % (7 : Int32))), .val (.int v3), .val (.int v7), .val (.int v11), .val (.int v15), .val (.int v19), .val (.int v23), .unset, .unset, .unset, .unset, .unset, .unset, .unset, .unset, .unset] [(.int v15)])) tg := by
    intro tg kt
    by_cases hc110_25 : v15 = 0
    · have qv27 : v27 = p4 := hv27.trans (if_pos hc110_25)
      rw [qv27] at kt
      show Steps p.tables e below (s₁.setTop (mkF m 110 #[.val (.int p1), .val (.int p2), .val (.int p3), .val (.int p4), .val (.int p5), .val (.int p6), .val (.int ((p1 &&& (255 : Int32)) % (7 : Int32))), .val (.int v3), .val (.int v7), .val (.int v11), .val (.int v15), .val (.int v19), .val (.int v23), .unset, .unset, .unset, .unset, .unset, .unset, .unset, .unset, .unset] [(.int v15)])) tg
      refine XS.ifYes X0.here hx rfl (pc0 := 110) (pc' := 120) rfl (hb hby at_110) rfl (XT.i0_eq_t hc110_25) (by decide) (by decide) ?_
      show Steps p.tables e below (s₁.setTop (mkF m 120 #[.val (.int p1), .val (.int p2), .val (.int p3), .val (.int p4), .val (.int p5), .val (.int p6), .val (.int ((p1 &&& (255 : Int32)) % (7 : Int32))), .val (.int v3), .val (.int v7), .val (.int v11), .val (.int v15), .val (.int v19), .val (.int v23), .unset, .unset, .unset, .unset, .unset, .unset, .unset, .unset, .unset] [])) tg
      refine XS.iloadN X0.here hx rfl (hb hby at_120) rfl ?_
      exact kt
    · have qv27 : v27 = (p4 + p5) := hv27.trans (if_neg hc110_25)
      rw [qv27] at kt
      show Steps p.tables e below (s₁.setTop (mkF m 110 #[.val (.int p1), .val (.int p2), .val (.int p3), .val (.int p4), .val (.int p5), .val (.int p6), .val (.int ((p1 &&& (255 : Int32)) % (7 : Int32))), .val (.int v3), .val (.int v7), .val (.int v11), .val (.int v15), .val (.int v19), .val (.int v23), .unset, .unset, .unset, .unset, .unset, .unset, .unset, .unset, .unset] [(.int v15)])) tg
      refine XS.ifNo X0.here hx rfl (hb hby at_110) rfl (XT.i0_eq_f hc110_25) ?_
      show Steps p.tables e below (s₁.setTop (mkF m 113 #[.val (.int p1), .val (.int p2), .val (.int p3), .val (.int p4), .val (.int p5), .val (.int p6), .val (.int ((p1 &&& (255 : Int32)) % (7 : Int32))), .val (.int v3), .val (.int v7), .val (.int v11), .val (.int v15), .val (.int v19), .val (.int v23), .unset, .unset, .unset, .unset, .unset, .unset, .unset, .unset, .unset] [])) tg
      refine XS.iloadN X0.here hx rfl (hb hby at_113) rfl ?_
      show Steps p.tables e below (s₁.setTop (mkF m 114 #[.val (.int p1), .val (.int p2), .val (.int p3), .val (.int p4), .val (.int p5), .val (.int p6), .val (.int ((p1 &&& (255 : Int32)) % (7 : Int32))), .val (.int v3), .val (.int v7), .val (.int v11), .val (.int v15), .val (.int v19), .val (.int v23), .unset, .unset, .unset, .unset, .unset, .unset, .unset, .unset, .unset] [(.int p4)])) tg
      refine XS.iload X0.here hx rfl (hb hby at_114) rfl ?_
      show Steps p.tables e below (s₁.setTop (mkF m 116 #[.val (.int p1), .val (.int p2), .val (.int p3), .val (.int p4), .val (.int p5), .val (.int p6), .val (.int ((p1 &&& (255 : Int32)) % (7 : Int32))), .val (.int v3), .val (.int v7), .val (.int v11), .val (.int v15), .val (.int v19), .val (.int v23), .unset, .unset, .unset, .unset, .unset, .unset, .unset, .unset, .unset] [(.int p5), (.int p4)])) tg
      refine XS.iadd X0.here hx rfl (hb hby at_116) rfl ?_
      show Steps p.tables e below (s₁.setTop (mkF m 117 #[.val (.int p1), .val (.int p2), .val (.int p3), .val (.int p4), .val (.int p5), .val (.int p6), .val (.int ((p1 &&& (255 : Int32)) % (7 : Int32))), .val (.int v3), .val (.int v7), .val (.int v11), .val (.int v15), .val (.int v19), .val (.int v23), .unset, .unset, .unset, .unset, .unset, .unset, .unset, .unset, .unset] [(.int (p4 + p5))])) tg
      refine XS.goto X0.here hx rfl (pc0 := 117) (pc' := 121) rfl (hb hby at_117) (by decide) (by decide) ?_
      exact kt
  have st29 : ∀ tg, Steps p.tables e below (s₁.setTop (mkF m 124 #[.val (.int p1), .val (.int p2), .val (.int p3), .val (.int p4), .val (.int p5), .val (.int p6), .val (.int ((p1 &&& (255 : Int32)) % (7 : Int32))), .val (.int v3), .val (.int v7), .val (.int v11), .val (.int v15), .val (.int v19), .val (.int v23), .val (.int v27), .unset, .unset, .unset, .unset, .unset, .unset, .unset, .unset] [(.int (1 : Int32))])) tg → Steps p.tables e below (s₁.setTop (mkF m 121 #[.val (.int p1), .val (.int p2), .val (.int p3), .val (.int p4), .val (.int p5), .val (.int p6), .val (.int ((p1 &&& (255 : Int32)) % (7 : Int32))), .val (.int v3), .val (.int v7), .val (.int v11), .val (.int v15), .val (.int v19), .val (.int v23), .unset, .unset, .unset, .unset, .unset, .unset, .unset, .unset, .unset] [(.int v27)])) tg := by
    intro tg kt
    show Steps p.tables e below (s₁.setTop (mkF m 121 #[.val (.int p1), .val (.int p2), .val (.int p3), .val (.int p4), .val (.int p5), .val (.int p6), .val (.int ((p1 &&& (255 : Int32)) % (7 : Int32))), .val (.int v3), .val (.int v7), .val (.int v11), .val (.int v15), .val (.int v19), .val (.int v23), .unset, .unset, .unset, .unset, .unset, .unset, .unset, .unset, .unset] [(.int v27)])) tg
    refine XS.istore X0.here hx rfl (hb hby at_121) rfl (l' := #[.val (.int p1), .val (.int p2), .val (.int p3), .val (.int p4), .val (.int p5), .val (.int p6), .val (.int ((p1 &&& (255 : Int32)) % (7 : Int32))), .val (.int v3), .val (.int v7), .val (.int v11), .val (.int v15), .val (.int v19), .val (.int v23), .val (.int v27), .unset, .unset, .unset, .unset, .unset, .unset, .unset, .unset]) rfl ?_
    show Steps p.tables e below (s₁.setTop (mkF m 123 #[.val (.int p1), .val (.int p2), .val (.int p3), .val (.int p4), .val (.int p5), .val (.int p6), .val (.int ((p1 &&& (255 : Int32)) % (7 : Int32))), .val (.int v3), .val (.int v7), .val (.int v11), .val (.int v15), .val (.int v19), .val (.int v23), .val (.int v27), .unset, .unset, .unset, .unset, .unset, .unset, .unset, .unset] [])) tg
    refine XS.iconst X0.here hx rfl (hb hby at_123) ?_
    exact kt
  obtain ⟨T30, h30, k30, X30, e30, E30, A30, st30⟩ := newP X0 hx hZ (hw _ (List.mem_of_getElem? (i := 0) rfl)) e0 (g := (mkF m 124 #[.val (.int p1), .val (.int p2), .val (.int p3), .val (.int p4), .val (.int p5), .val (.int p6), .val (.int ((p1 &&& (255 : Int32)) % (7 : Int32))), .val (.int v3), .val (.int v7), .val (.int v11), .val (.int v15), .val (.int v19), .val (.int v23), .val (.int v27), .unset, .unset, .unset, .unset, .unset, .unset, .unset, .unset] [(.int (1 : Int32))])) rfl (hb hby at_124) rfl (by decide) (cap := 1) (by decide) (by decide) (by decide) (by decide)
  obtain ⟨b30, gz30⟩ : ∃ z, z = h0.size := ⟨_, rfl⟩
  rw [← gz30] at A30 st30
  have g_b30 : n0 ≤ b30 := Nat.le_trans Z0 (Nat.le_of_eq gz30.symm)
  have sz_b30 : h0.size ≤ b30 := Nat.le_trans K0.1 (Nat.le_of_eq gz30.symm)
  have G31 : Old Z n0 h30 := OLD.ext E30
  have K30 : Keep h0 h30 [] := K0.ext E30
  have Z30 : n0 ≤ h30.size := Nat.le_trans Z0 E30.1
  have G32 : Arv Z h30 b30 k30 .char (1 : Int32) [(.int (0 : Int32))] (.int (0 : Int32)) := (Arv.new A30 (by decide)).pad (pad_rep [] (.int (0 : Int32)) 1)
  have st33 : ∀ tg, Steps p.tables e below (T30.setTop (mkF m 138 #[.val (.int p1), .val (.int p2), .val (.int p3), .val (.int p4), .val (.int p5), .val (.int p6), .val (.int ((p1 &&& (255 : Int32)) % (7 : Int32))), .val (.int v3), .val (.int v7), .val (.int v11), .val (.int v15), .val (.int v19), .val (.int v23), .val (.int v27), .unset, .unset, .unset, .unset, .unset, .unset, .unset, .unset] [(.int ((((p6.toUInt32 >>> ((8 : Int32) &&& 31).toUInt32).toInt32) &&& (255 : Int32)).toUInt32.toUInt16.toUInt32.toInt32)), (.int (0 : Int32)), (.ref b30), (.ref b30)])) tg → Steps p.tables e below (T30.setTop (mkF m 126 #[.val (.int p1), .val (.int p2), .val (.int p3), .val (.int p4), .val (.int p5), .val (.int p6), .val (.int ((p1 &&& (255 : Int32)) % (7 : Int32))), .val (.int v3), .val (.int v7), .val (.int v11), .val (.int v15), .val (.int v19), .val (.int v23), .val (.int v27), .unset, .unset, .unset, .unset, .unset, .unset, .unset, .unset] [(.ref b30)])) tg := by
    intro tg kt
    show Steps p.tables e below (T30.setTop (mkF m 126 #[.val (.int p1), .val (.int p2), .val (.int p3), .val (.int p4), .val (.int p5), .val (.int p6), .val (.int ((p1 &&& (255 : Int32)) % (7 : Int32))), .val (.int v3), .val (.int v7), .val (.int v11), .val (.int v15), .val (.int v19), .val (.int v23), .val (.int v27), .unset, .unset, .unset, .unset, .unset, .unset, .unset, .unset] [(.ref b30)])) tg
    refine XS.dup X30.here hx rfl (hb hby at_126) rfl rfl ?_
    show Steps p.tables e below (T30.setTop (mkF m 127 #[.val (.int p1), .val (.int p2), .val (.int p3), .val (.int p4), .val (.int p5), .val (.int p6), .val (.int ((p1 &&& (255 : Int32)) % (7 : Int32))), .val (.int v3), .val (.int v7), .val (.int v11), .val (.int v15), .val (.int v19), .val (.int v23), .val (.int v27), .unset, .unset, .unset, .unset, .unset, .unset, .unset, .unset] [(.ref b30), (.ref b30)])) tg
    refine XS.iconst X30.here hx rfl (hb hby at_127) ?_
    show Steps p.tables e below (T30.setTop (mkF m 128 #[.val (.int p1), .val (.int p2), .val (.int p3), .val (.int p4), .val (.int p5), .val (.int p6), .val (.int ((p1 &&& (255 : Int32)) % (7 : Int32))), .val (.int v3), .val (.int v7), .val (.int v11), .val (.int v15), .val (.int v19), .val (.int v23), .val (.int v27), .unset, .unset, .unset, .unset, .unset, .unset, .unset, .unset] [(.int (0 : Int32)), (.ref b30), (.ref b30)])) tg
    refine XS.iload X30.here hx rfl (hb hby at_128) rfl ?_
    show Steps p.tables e below (T30.setTop (mkF m 130 #[.val (.int p1), .val (.int p2), .val (.int p3), .val (.int p4), .val (.int p5), .val (.int p6), .val (.int ((p1 &&& (255 : Int32)) % (7 : Int32))), .val (.int v3), .val (.int v7), .val (.int v11), .val (.int v15), .val (.int v19), .val (.int v23), .val (.int v27), .unset, .unset, .unset, .unset, .unset, .unset, .unset, .unset] [(.int p6), (.int (0 : Int32)), (.ref b30), (.ref b30)])) tg
    refine XS.bipush X30.here hx rfl (hb hby at_130) ?_
    show Steps p.tables e below (T30.setTop (mkF m 132 #[.val (.int p1), .val (.int p2), .val (.int p3), .val (.int p4), .val (.int p5), .val (.int p6), .val (.int ((p1 &&& (255 : Int32)) % (7 : Int32))), .val (.int v3), .val (.int v7), .val (.int v11), .val (.int v15), .val (.int v19), .val (.int v23), .val (.int v27), .unset, .unset, .unset, .unset, .unset, .unset, .unset, .unset] [(.int (8 : Int32)), (.int p6), (.int (0 : Int32)), (.ref b30), (.ref b30)])) tg
    refine XS.iushr X30.here hx rfl (hb hby at_132) rfl ?_
    show Steps p.tables e below (T30.setTop (mkF m 133 #[.val (.int p1), .val (.int p2), .val (.int p3), .val (.int p4), .val (.int p5), .val (.int p6), .val (.int ((p1 &&& (255 : Int32)) % (7 : Int32))), .val (.int v3), .val (.int v7), .val (.int v11), .val (.int v15), .val (.int v19), .val (.int v23), .val (.int v27), .unset, .unset, .unset, .unset, .unset, .unset, .unset, .unset] [(.int ((p6.toUInt32 >>> ((8 : Int32) &&& 31).toUInt32).toInt32)), (.int (0 : Int32)), (.ref b30), (.ref b30)])) tg
    refine XS.sipush X30.here hx rfl (hb hby at_133) ?_
    show Steps p.tables e below (T30.setTop (mkF m 136 #[.val (.int p1), .val (.int p2), .val (.int p3), .val (.int p4), .val (.int p5), .val (.int p6), .val (.int ((p1 &&& (255 : Int32)) % (7 : Int32))), .val (.int v3), .val (.int v7), .val (.int v11), .val (.int v15), .val (.int v19), .val (.int v23), .val (.int v27), .unset, .unset, .unset, .unset, .unset, .unset, .unset, .unset] [(.int (255 : Int32)), (.int ((p6.toUInt32 >>> ((8 : Int32) &&& 31).toUInt32).toInt32)), (.int (0 : Int32)), (.ref b30), (.ref b30)])) tg
    refine XS.iand X30.here hx rfl (hb hby at_136) rfl ?_
    show Steps p.tables e below (T30.setTop (mkF m 137 #[.val (.int p1), .val (.int p2), .val (.int p3), .val (.int p4), .val (.int p5), .val (.int p6), .val (.int ((p1 &&& (255 : Int32)) % (7 : Int32))), .val (.int v3), .val (.int v7), .val (.int v11), .val (.int v15), .val (.int v19), .val (.int v23), .val (.int v27), .unset, .unset, .unset, .unset, .unset, .unset, .unset, .unset] [(.int (((p6.toUInt32 >>> ((8 : Int32) &&& 31).toUInt32).toInt32) &&& (255 : Int32))), (.int (0 : Int32)), (.ref b30), (.ref b30)])) tg
    refine XS.i2c X30.here hx rfl (hb hby at_137) rfl ?_
    exact kt
  obtain ⟨cl34, Ar34, qa34, Sa34, Na34, Ha34, Ga34⟩ := id G32
  have hin34 : ¬ ((0 : Int32) < 0 ∨ cl34.slots.size ≤ ((0 : Int32)).toNatClampNeg) := inb_of Sa34 ⟨by decide, by decide⟩
  obtain ⟨T35, h35, X35, e35, W35, st35⟩ := stC X30 hx hZ e30 Ar34 (j := (0 : Int32)) hin34 (g := (mkF m 138 #[.val (.int p1), .val (.int p2), .val (.int p3), .val (.int p4), .val (.int p5), .val (.int p6), .val (.int ((p1 &&& (255 : Int32)) % (7 : Int32))), .val (.int v3), .val (.int v7), .val (.int v11), .val (.int v15), .val (.int v19), .val (.int v23), .val (.int v27), .unset, .unset, .unset, .unset, .unset, .unset, .unset, .unset] [(.int ((((p6.toUInt32 >>> ((8 : Int32) &&& 31).toUInt32).toInt32) &&& (255 : Int32)).toUInt32.toUInt16.toUInt32.toInt32)), (.int (0 : Int32)), (.ref b30), (.ref b30)])) rfl rfl (hb hby at_138)
  have N35 := Fr.snoc X35 N0 g_b30
  have K35 : Keep h0 h35 [] := K30.wr W35 (Or.inr sz_b30)
  have Z35 : n0 ≤ h35.size := Nat.le_trans Z30 (Keep.of_wr W35).1
  have G36 : Old Z n0 h35 := G31.wr W35 g_b30
  have G37 : Arv Z h35 b30 k30 .char (1 : Int32) [(.int (nar .char ((((p6.toUInt32 >>> ((8 : Int32) &&& 31).toUInt32).toInt32) &&& (255 : Int32)).toUInt32.toUInt16.toUInt32.toInt32)))] (.int (0 : Int32)) := Arv.set Ar34 qa34 Sa34 Na34 Ha34 Ga34 (fits_nar_char _) W35 0 rfl (Nat.le_of_ble_eq_true rfl)
  have st38 : ∀ tg, Steps p.tables e below (T35.setTop (mkF m 142 #[.val (.int p1), .val (.int p2), .val (.int p3), .val (.int p4), .val (.int p5), .val (.int p6), .val (.int ((p1 &&& (255 : Int32)) % (7 : Int32))), .val (.int v3), .val (.int v7), .val (.int v11), .val (.int v15), .val (.int v19), .val (.int v23), .val (.int v27), .val (.ref b30), .unset, .unset, .unset, .unset, .unset, .unset, .unset] [(.int (1 : Int32))])) tg → Steps p.tables e below (T35.setTop (mkF m 139 #[.val (.int p1), .val (.int p2), .val (.int p3), .val (.int p4), .val (.int p5), .val (.int p6), .val (.int ((p1 &&& (255 : Int32)) % (7 : Int32))), .val (.int v3), .val (.int v7), .val (.int v11), .val (.int v15), .val (.int v19), .val (.int v23), .val (.int v27), .unset, .unset, .unset, .unset, .unset, .unset, .unset, .unset] [(.ref b30)])) tg := by
    intro tg kt
    show Steps p.tables e below (T35.setTop (mkF m 139 #[.val (.int p1), .val (.int p2), .val (.int p3), .val (.int p4), .val (.int p5), .val (.int p6), .val (.int ((p1 &&& (255 : Int32)) % (7 : Int32))), .val (.int v3), .val (.int v7), .val (.int v11), .val (.int v15), .val (.int v19), .val (.int v23), .val (.int v27), .unset, .unset, .unset, .unset, .unset, .unset, .unset, .unset] [(.ref b30)])) tg
    refine XS.astore X35.here hx rfl (hb hby at_139) rfl rfl (l' := #[.val (.int p1), .val (.int p2), .val (.int p3), .val (.int p4), .val (.int p5), .val (.int p6), .val (.int ((p1 &&& (255 : Int32)) % (7 : Int32))), .val (.int v3), .val (.int v7), .val (.int v11), .val (.int v15), .val (.int v19), .val (.int v23), .val (.int v27), .val (.ref b30), .unset, .unset, .unset, .unset, .unset, .unset, .unset]) rfl ?_
    show Steps p.tables e below (T35.setTop (mkF m 141 #[.val (.int p1), .val (.int p2), .val (.int p3), .val (.int p4), .val (.int p5), .val (.int p6), .val (.int ((p1 &&& (255 : Int32)) % (7 : Int32))), .val (.int v3), .val (.int v7), .val (.int v11), .val (.int v15), .val (.int v19), .val (.int v23), .val (.int v27), .val (.ref b30), .unset, .unset, .unset, .unset, .unset, .unset, .unset] [])) tg
    refine XS.iconst X35.here hx rfl (hb hby at_141) ?_
    exact kt
  obtain ⟨T39, h39, k39, X39, e39, E39, A39, st39⟩ := newP X35 hx hZ (hw _ (List.mem_of_getElem? (i := 0) rfl)) e35 (g := (mkF m 142 #[.val (.int p1), .val (.int p2), .val (.int p3), .val (.int p4), .val (.int p5), .val (.int p6), .val (.int ((p1 &&& (255 : Int32)) % (7 : Int32))), .val (.int v3), .val (.int v7), .val (.int v11), .val (.int v15), .val (.int v19), .val (.int v23), .val (.int v27), .val (.ref b30), .unset, .unset, .unset, .unset, .unset, .unset, .unset] [(.int (1 : Int32))])) rfl (hb hby at_142) rfl (by decide) (cap := 1) (by decide) (by decide) (by decide) (by decide)
  obtain ⟨b39, gz39⟩ : ∃ z, z = h35.size := ⟨_, rfl⟩
  rw [← gz39] at A39 st39
  have ne_b30_b39 : b30 ≠ b39 := Nat.ne_of_lt (Nat.lt_of_lt_of_le G37.lt (Nat.le_of_eq gz39.symm))
  have g_b39 : n0 ≤ b39 := Nat.le_trans Z35 (Nat.le_of_eq gz39.symm)
  have sz_b39 : h0.size ≤ b39 := Nat.le_trans K35.1 (Nat.le_of_eq gz39.symm)
  have G40 : Old Z n0 h39 := G36.ext E39
  have G41 : Arv Z h39 b30 k30 .char (1 : Int32) [(.int (nar .char ((((p6.toUInt32 >>> ((8 : Int32) &&& 31).toUInt32).toInt32) &&& (255 : Int32)).toUInt32.toUInt16.toUInt32.toInt32)))] (.int (0 : Int32)) := G37.ext E39
  have K39 : Keep h0 h39 [] := K35.ext E39
  have Z39 : n0 ≤ h39.size := Nat.le_trans Z35 E39.1
  have G42 : Arv Z h39 b39 k39 .char (1 : Int32) [(.int (0 : Int32))] (.int (0 : Int32)) := (Arv.new A39 (by decide)).pad (pad_rep [] (.int (0 : Int32)) 1)
  have st43 : ∀ tg, Steps p.tables e below (T39.setTop (mkF m 156 #[.val (.int p1), .val (.int p2), .val (.int p3), .val (.int p4), .val (.int p5), .val (.int p6), .val (.int ((p1 &&& (255 : Int32)) % (7 : Int32))), .val (.int v3), .val (.int v7), .val (.int v11), .val (.int v15), .val (.int v19), .val (.int v23), .val (.int v27), .val (.ref b30), .unset, .unset, .unset, .unset, .unset, .unset, .unset] [(.int ((((p6.toUInt32 >>> ((16 : Int32) &&& 31).toUInt32).toInt32) &&& (255 : Int32)).toUInt32.toUInt16.toUInt32.toInt32)), (.int (0 : Int32)), (.ref b39), (.ref b39)])) tg → Steps p.tables e below (T39.setTop (mkF m 144 #[.val (.int p1), .val (.int p2), .val (.int p3), .val (.int p4), .val (.int p5), .val (.int p6), .val (.int ((p1 &&& (255 : Int32)) % (7 : Int32))), .val (.int v3), .val (.int v7), .val (.int v11), .val (.int v15), .val (.int v19), .val (.int v23), .val (.int v27), .val (.ref b30), .unset, .unset, .unset, .unset, .unset, .unset, .unset] [(.ref b39)])) tg := by
    intro tg kt
    show Steps p.tables e below (T39.setTop (mkF m 144 #[.val (.int p1), .val (.int p2), .val (.int p3), .val (.int p4), .val (.int p5), .val (.int p6), .val (.int ((p1 &&& (255 : Int32)) % (7 : Int32))), .val (.int v3), .val (.int v7), .val (.int v11), .val (.int v15), .val (.int v19), .val (.int v23), .val (.int v27), .val (.ref b30), .unset, .unset, .unset, .unset, .unset, .unset, .unset] [(.ref b39)])) tg
    refine XS.dup X39.here hx rfl (hb hby at_144) rfl rfl ?_
    show Steps p.tables e below (T39.setTop (mkF m 145 #[.val (.int p1), .val (.int p2), .val (.int p3), .val (.int p4), .val (.int p5), .val (.int p6), .val (.int ((p1 &&& (255 : Int32)) % (7 : Int32))), .val (.int v3), .val (.int v7), .val (.int v11), .val (.int v15), .val (.int v19), .val (.int v23), .val (.int v27), .val (.ref b30), .unset, .unset, .unset, .unset, .unset, .unset, .unset] [(.ref b39), (.ref b39)])) tg
    refine XS.iconst X39.here hx rfl (hb hby at_145) ?_
    show Steps p.tables e below (T39.setTop (mkF m 146 #[.val (.int p1), .val (.int p2), .val (.int p3), .val (.int p4), .val (.int p5), .val (.int p6), .val (.int ((p1 &&& (255 : Int32)) % (7 : Int32))), .val (.int v3), .val (.int v7), .val (.int v11), .val (.int v15), .val (.int v19), .val (.int v23), .val (.int v27), .val (.ref b30), .unset, .unset, .unset, .unset, .unset, .unset, .unset] [(.int (0 : Int32)), (.ref b39), (.ref b39)])) tg
    refine XS.iload X39.here hx rfl (hb hby at_146) rfl ?_
    show Steps p.tables e below (T39.setTop (mkF m 148 #[.val (.int p1), .val (.int p2), .val (.int p3), .val (.int p4), .val (.int p5), .val (.int p6), .val (.int ((p1 &&& (255 : Int32)) % (7 : Int32))), .val (.int v3), .val (.int v7), .val (.int v11), .val (.int v15), .val (.int v19), .val (.int v23), .val (.int v27), .val (.ref b30), .unset, .unset, .unset, .unset, .unset, .unset, .unset] [(.int p6), (.int (0 : Int32)), (.ref b39), (.ref b39)])) tg
    refine XS.bipush X39.here hx rfl (hb hby at_148) ?_
    show Steps p.tables e below (T39.setTop (mkF m 150 #[.val (.int p1), .val (.int p2), .val (.int p3), .val (.int p4), .val (.int p5), .val (.int p6), .val (.int ((p1 &&& (255 : Int32)) % (7 : Int32))), .val (.int v3), .val (.int v7), .val (.int v11), .val (.int v15), .val (.int v19), .val (.int v23), .val (.int v27), .val (.ref b30), .unset, .unset, .unset, .unset, .unset, .unset, .unset] [(.int (16 : Int32)), (.int p6), (.int (0 : Int32)), (.ref b39), (.ref b39)])) tg
    refine XS.iushr X39.here hx rfl (hb hby at_150) rfl ?_
    show Steps p.tables e below (T39.setTop (mkF m 151 #[.val (.int p1), .val (.int p2), .val (.int p3), .val (.int p4), .val (.int p5), .val (.int p6), .val (.int ((p1 &&& (255 : Int32)) % (7 : Int32))), .val (.int v3), .val (.int v7), .val (.int v11), .val (.int v15), .val (.int v19), .val (.int v23), .val (.int v27), .val (.ref b30), .unset, .unset, .unset, .unset, .unset, .unset, .unset] [(.int ((p6.toUInt32 >>> ((16 : Int32) &&& 31).toUInt32).toInt32)), (.int (0 : Int32)), (.ref b39), (.ref b39)])) tg
    refine XS.sipush X39.here hx rfl (hb hby at_151) ?_
    show Steps p.tables e below (T39.setTop (mkF m 154 #[.val (.int p1), .val (.int p2), .val (.int p3), .val (.int p4), .val (.int p5), .val (.int p6), .val (.int ((p1 &&& (255 : Int32)) % (7 : Int32))), .val (.int v3), .val (.int v7), .val (.int v11), .val (.int v15), .val (.int v19), .val (.int v23), .val (.int v27), .val (.ref b30), .unset, .unset, .unset, .unset, .unset, .unset, .unset] [(.int (255 : Int32)), (.int ((p6.toUInt32 >>> ((16 : Int32) &&& 31).toUInt32).toInt32)), (.int (0 : Int32)), (.ref b39), (.ref b39)])) tg
    refine XS.iand X39.here hx rfl (hb hby at_154) rfl ?_
    show Steps p.tables e below (T39.setTop (mkF m 155 #[.val (.int p1), .val (.int p2), .val (.int p3), .val (.int p4), .val (.int p5), .val (.int p6), .val (.int ((p1 &&& (255 : Int32)) % (7 : Int32))), .val (.int v3), .val (.int v7), .val (.int v11), .val (.int v15), .val (.int v19), .val (.int v23), .val (.int v27), .val (.ref b30), .unset, .unset, .unset, .unset, .unset, .unset, .unset] [(.int (((p6.toUInt32 >>> ((16 : Int32) &&& 31).toUInt32).toInt32) &&& (255 : Int32))), (.int (0 : Int32)), (.ref b39), (.ref b39)])) tg
    refine XS.i2c X39.here hx rfl (hb hby at_155) rfl ?_
    exact kt
  obtain ⟨cl44, Ar44, qa44, Sa44, Na44, Ha44, Ga44⟩ := id G42
  have hin44 : ¬ ((0 : Int32) < 0 ∨ cl44.slots.size ≤ ((0 : Int32)).toNatClampNeg) := inb_of Sa44 ⟨by decide, by decide⟩
  obtain ⟨T45, h45, X45, e45, W45, st45⟩ := stC X39 hx hZ e39 Ar44 (j := (0 : Int32)) hin44 (g := (mkF m 156 #[.val (.int p1), .val (.int p2), .val (.int p3), .val (.int p4), .val (.int p5), .val (.int p6), .val (.int ((p1 &&& (255 : Int32)) % (7 : Int32))), .val (.int v3), .val (.int v7), .val (.int v11), .val (.int v15), .val (.int v19), .val (.int v23), .val (.int v27), .val (.ref b30), .unset, .unset, .unset, .unset, .unset, .unset, .unset] [(.int ((((p6.toUInt32 >>> ((16 : Int32) &&& 31).toUInt32).toInt32) &&& (255 : Int32)).toUInt32.toUInt16.toUInt32.toInt32)), (.int (0 : Int32)), (.ref b39), (.ref b39)])) rfl rfl (hb hby at_156)
  have N45 := Fr.snoc X45 N35 g_b39
  have K45 : Keep h0 h45 [] := K39.wr W45 (Or.inr sz_b39)
  have Z45 : n0 ≤ h45.size := Nat.le_trans Z39 (Keep.of_wr W45).1
  have G46 : Old Z n0 h45 := G40.wr W45 g_b39
  have G47 : Arv Z h45 b30 k30 .char (1 : Int32) [(.int (nar .char ((((p6.toUInt32 >>> ((8 : Int32) &&& 31).toUInt32).toInt32) &&& (255 : Int32)).toUInt32.toUInt16.toUInt32.toInt32)))] (.int (0 : Int32)) := G41.other W45 ne_b30_b39
  have G48 : Arv Z h45 b39 k39 .char (1 : Int32) [(.int (nar .char ((((p6.toUInt32 >>> ((16 : Int32) &&& 31).toUInt32).toInt32) &&& (255 : Int32)).toUInt32.toUInt16.toUInt32.toInt32)))] (.int (0 : Int32)) := Arv.set Ar44 qa44 Sa44 Na44 Ha44 Ga44 (fits_nar_char _) W45 0 rfl (Nat.le_of_ble_eq_true rfl)
  have st49 : ∀ tg, Steps p.tables e below (T45.setTop (mkF m 159 #[.val (.int p1), .val (.int p2), .val (.int p3), .val (.int p4), .val (.int p5), .val (.int p6), .val (.int ((p1 &&& (255 : Int32)) % (7 : Int32))), .val (.int v3), .val (.int v7), .val (.int v11), .val (.int v15), .val (.int v19), .val (.int v23), .val (.int v27), .val (.ref b30), .val (.ref b39), .unset, .unset, .unset, .unset, .unset, .unset] [])) tg → Steps p.tables e below (T45.setTop (mkF m 157 #[.val (.int p1), .val (.int p2), .val (.int p3), .val (.int p4), .val (.int p5), .val (.int p6), .val (.int ((p1 &&& (255 : Int32)) % (7 : Int32))), .val (.int v3), .val (.int v7), .val (.int v11), .val (.int v15), .val (.int v19), .val (.int v23), .val (.int v27), .val (.ref b30), .unset, .unset, .unset, .unset, .unset, .unset, .unset] [(.ref b39)])) tg := by
    intro tg kt
    show Steps p.tables e below (T45.setTop (mkF m 157 #[.val (.int p1), .val (.int p2), .val (.int p3), .val (.int p4), .val (.int p5), .val (.int p6), .val (.int ((p1 &&& (255 : Int32)) % (7 : Int32))), .val (.int v3), .val (.int v7), .val (.int v11), .val (.int v15), .val (.int v19), .val (.int v23), .val (.int v27), .val (.ref b30), .unset, .unset, .unset, .unset, .unset, .unset, .unset] [(.ref b39)])) tg
    refine XS.astore X45.here hx rfl (hb hby at_157) rfl rfl (l' := #[.val (.int p1), .val (.int p2), .val (.int p3), .val (.int p4), .val (.int p5), .val (.int p6), .val (.int ((p1 &&& (255 : Int32)) % (7 : Int32))), .val (.int v3), .val (.int v7), .val (.int v11), .val (.int v15), .val (.int v19), .val (.int v23), .val (.int v27), .val (.ref b30), .val (.ref b39), .unset, .unset, .unset, .unset, .unset, .unset]) rfl ?_
    exact kt
  obtain ⟨T50, h50, X50, e50, E50, A50, D50, -, st50⟩ := newO X45 hx hZ hown (hw _ (List.mem_of_getElem? (i := 1) rfl)) (hw _ (List.mem_of_getElem? (i := 2) rfl)) (hw _ (List.mem_of_getElem? (i := 3) rfl)) e45 (g := (mkF m 159 #[.val (.int p1), .val (.int p2), .val (.int p3), .val (.int p4), .val (.int p5), .val (.int p6), .val (.int ((p1 &&& (255 : Int32)) % (7 : Int32))), .val (.int v3), .val (.int v7), .val (.int v11), .val (.int v15), .val (.int v19), .val (.int v23), .val (.int v27), .val (.ref b30), .val (.ref b39), .unset, .unset, .unset, .unset, .unset, .unset] [])) rfl (hb hby at_159) (by decide) (by decide)
  obtain ⟨b50, gz50⟩ : ∃ z, z = h45.size := ⟨_, rfl⟩
  rw [← gz50] at A50 D50 st50
  have ne_b30_b50 : b30 ≠ b50 := Nat.ne_of_lt (Nat.lt_of_lt_of_le G47.lt (Nat.le_of_eq gz50.symm))
  have ne_b39_b50 : b39 ≠ b50 := Nat.ne_of_lt (Nat.lt_of_lt_of_le G48.lt (Nat.le_of_eq gz50.symm))
  have g_b50 : n0 ≤ b50 := Nat.le_trans Z45 (Nat.le_of_eq gz50.symm)
  have sz_b50 : h0.size ≤ b50 := Nat.le_trans K45.1 (Nat.le_of_eq gz50.symm)
  have G51 : Old Z n0 h50 := G46.ext E50
  have G52 : Arv Z h50 b30 k30 .char (1 : Int32) [(.int (nar .char ((((p6.toUInt32 >>> ((8 : Int32) &&& 31).toUInt32).toInt32) &&& (255 : Int32)).toUInt32.toUInt16.toUInt32.toInt32)))] (.int (0 : Int32)) := G47.ext E50
  have G53 : Arv Z h50 b39 k39 .char (1 : Int32) [(.int (nar .char ((((p6.toUInt32 >>> ((16 : Int32) &&& 31).toUInt32).toInt32) &&& (255 : Int32)).toUInt32.toUInt16.toUInt32.toInt32)))] (.int (0 : Int32)) := G48.ext E50
  have K50 : Keep h0 h50 [] := K45.ext E50
  have Z50 : n0 ≤ h50.size := Nat.le_trans Z45 E50.1
  have G54 : Exa Z h50 b50 "com/example/bingli/bingli/conformance/DataElementFormat" := A50
  have G55 : Fld Z h50 b50 "com/example/bingli/bingli/conformance/DataElementFormat" "printed" "Ljava/lang/String;" .null := D50 (Or.inr (hw _ (List.mem_of_getElem? (i := 50) rfl))) (ty := (.object "java/lang/String")) (by decide)
  have G56 : Fld Z h50 b50 "com/example/bingli/bingli/conformance/DataElementFormat" "kind" "Lcom/example/bingli/bingli/conformance/DataElementFormat$Kind;" .null := D50 (Or.inr (hw _ (List.mem_of_getElem? (i := 52) rfl))) (ty := (.object "com/example/bingli/bingli/conformance/DataElementFormat$Kind")) (by decide)
  have G57 : Fld Z h50 b50 "com/example/bingli/bingli/conformance/DataElementFormat" "minimum" "I" (.int (0 : Int32)) := D50 (Or.inr (hw _ (List.mem_of_getElem? (i := 54) rfl))) (ty := .int) (by decide)
  have G58 : Fld Z h50 b50 "com/example/bingli/bingli/conformance/DataElementFormat" "maximum" "I" (.int (0 : Int32)) := D50 (Or.inr (hw _ (List.mem_of_getElem? (i := 56) rfl))) (ty := .int) (by decide)
  have G59 : Fld Z h50 b50 "com/example/bingli/bingli/conformance/DataElementFormat" "scale" "I" (.int (0 : Int32)) := D50 (Or.inr (hw _ (List.mem_of_getElem? (i := 58) rfl))) (ty := .int) (by decide)
  have st60 : ∀ tg, Steps p.tables e below (T50.setTop (mkF m 163 #[.val (.int p1), .val (.int p2), .val (.int p3), .val (.int p4), .val (.int p5), .val (.int p6), .val (.int ((p1 &&& (255 : Int32)) % (7 : Int32))), .val (.int v3), .val (.int v7), .val (.int v11), .val (.int v15), .val (.int v19), .val (.int v23), .val (.int v27), .val (.ref b30), .val (.ref b39), .unset, .unset, .unset, .unset, .unset, .unset] [(.ref b50), (.ref b50)])) tg → Steps p.tables e below (T50.setTop (mkF m 162 #[.val (.int p1), .val (.int p2), .val (.int p3), .val (.int p4), .val (.int p5), .val (.int p6), .val (.int ((p1 &&& (255 : Int32)) % (7 : Int32))), .val (.int v3), .val (.int v7), .val (.int v11), .val (.int v15), .val (.int v19), .val (.int v23), .val (.int v27), .val (.ref b30), .val (.ref b39), .unset, .unset, .unset, .unset, .unset, .unset] [(.ref b50)])) tg := by
    intro tg kt
    show Steps p.tables e below (T50.setTop (mkF m 162 #[.val (.int p1), .val (.int p2), .val (.int p3), .val (.int p4), .val (.int p5), .val (.int p6), .val (.int ((p1 &&& (255 : Int32)) % (7 : Int32))), .val (.int v3), .val (.int v7), .val (.int v11), .val (.int v15), .val (.int v19), .val (.int v23), .val (.int v27), .val (.ref b30), .val (.ref b39), .unset, .unset, .unset, .unset, .unset, .unset] [(.ref b50)])) tg
    refine XS.dup X50.here hx rfl (hb hby at_162) rfl rfl ?_
    exact kt
  obtain ⟨T61, h61, X61, e61, E61, A61, D61, -, st61⟩ := newO X50 hx hZ hown (hw _ (List.mem_of_getElem? (i := 4) rfl)) (hw _ (List.mem_of_getElem? (i := 5) rfl)) (hw _ (List.mem_of_getElem? (i := 6) rfl)) e50 (g := (mkF m 163 #[.val (.int p1), .val (.int p2), .val (.int p3), .val (.int p4), .val (.int p5), .val (.int p6), .val (.int ((p1 &&& (255 : Int32)) % (7 : Int32))), .val (.int v3), .val (.int v7), .val (.int v11), .val (.int v15), .val (.int v19), .val (.int v23), .val (.int v27), .val (.ref b30), .val (.ref b39), .unset, .unset, .unset, .unset, .unset, .unset] [(.ref b50), (.ref b50)])) rfl (hb hby at_163) (by decide) (by decide)
  obtain ⟨b61, gz61⟩ : ∃ z, z = h50.size := ⟨_, rfl⟩
  rw [← gz61] at A61 D61 st61
  have ne_b30_b61 : b30 ≠ b61 := Nat.ne_of_lt (Nat.lt_of_lt_of_le G52.lt (Nat.le_of_eq gz61.symm))
  have ne_b39_b61 : b39 ≠ b61 := Nat.ne_of_lt (Nat.lt_of_lt_of_le G53.lt (Nat.le_of_eq gz61.symm))
  have ne_b50_b61 : b50 ≠ b61 := Nat.ne_of_lt (Nat.lt_of_lt_of_le G54.lt (Nat.le_of_eq gz61.symm))
  have g_b61 : n0 ≤ b61 := Nat.le_trans Z50 (Nat.le_of_eq gz61.symm)
  have sz_b61 : h0.size ≤ b61 := Nat.le_trans K50.1 (Nat.le_of_eq gz61.symm)
  have G62 : Old Z n0 h61 := G51.ext E61
  have G63 : Arv Z h61 b30 k30 .char (1 : Int32) [(.int (nar .char ((((p6.toUInt32 >>> ((8 : Int32) &&& 31).toUInt32).toInt32) &&& (255 : Int32)).toUInt32.toUInt16.toUInt32.toInt32)))] (.int (0 : Int32)) := G52.ext E61
  have G64 : Arv Z h61 b39 k39 .char (1 : Int32) [(.int (nar .char ((((p6.toUInt32 >>> ((16 : Int32) &&& 31).toUInt32).toInt32) &&& (255 : Int32)).toUInt32.toUInt16.toUInt32.toInt32)))] (.int (0 : Int32)) := G53.ext E61
  have G65 : Exa Z h61 b50 "com/example/bingli/bingli/conformance/DataElementFormat" := G54.ext E61
  have G66 : Fld Z h61 b50 "com/example/bingli/bingli/conformance/DataElementFormat" "printed" "Ljava/lang/String;" .null := G55.ext E61
  have G67 : Fld Z h61 b50 "com/example/bingli/bingli/conformance/DataElementFormat" "kind" "Lcom/example/bingli/bingli/conformance/DataElementFormat$Kind;" .null := G56.ext E61
  have G68 : Fld Z h61 b50 "com/example/bingli/bingli/conformance/DataElementFormat" "minimum" "I" (.int (0 : Int32)) := G57.ext E61
  have G69 : Fld Z h61 b50 "com/example/bingli/bingli/conformance/DataElementFormat" "maximum" "I" (.int (0 : Int32)) := G58.ext E61
  have G70 : Fld Z h61 b50 "com/example/bingli/bingli/conformance/DataElementFormat" "scale" "I" (.int (0 : Int32)) := G59.ext E61
  have K61 : Keep h0 h61 [] := K50.ext E61
  have Z61 : n0 ≤ h61.size := Nat.le_trans Z50 E61.1
  have G71 : Exa Z h61 b61 "java/lang/String" := A61
  have G72 : Fld Z h61 b61 "java/lang/String" "coder" "B" (.int (0 : Int32)) := D61 (Or.inr (hw _ (List.mem_of_getElem? (i := 30) rfl))) (ty := .byte) (by decide)
  have G73 : Fld Z h61 b61 "java/lang/String" "value" "[B" .null := D61 (Or.inr (hw _ (List.mem_of_getElem? (i := 32) rfl))) (ty := (.array .byte)) (by decide)
  have st74 : ∀ tg, Steps p.tables e below (T61.setTop (mkF m 169 #[.val (.int p1), .val (.int p2), .val (.int p3), .val (.int p4), .val (.int p5), .val (.int p6), .val (.int ((p1 &&& (255 : Int32)) % (7 : Int32))), .val (.int v3), .val (.int v7), .val (.int v11), .val (.int v15), .val (.int v19), .val (.int v23), .val (.int v27), .val (.ref b30), .val (.ref b39), .unset, .unset, .unset, .unset, .unset, .unset] [(.ref b30), (.ref b61), (.ref b61), (.ref b50), (.ref b50)])) tg → Steps p.tables e below (T61.setTop (mkF m 166 #[.val (.int p1), .val (.int p2), .val (.int p3), .val (.int p4), .val (.int p5), .val (.int p6), .val (.int ((p1 &&& (255 : Int32)) % (7 : Int32))), .val (.int v3), .val (.int v7), .val (.int v11), .val (.int v15), .val (.int v19), .val (.int v23), .val (.int v27), .val (.ref b30), .val (.ref b39), .unset, .unset, .unset, .unset, .unset, .unset] [(.ref b61), (.ref b50), (.ref b50)])) tg := by
    intro tg kt
    show Steps p.tables e below (T61.setTop (mkF m 166 #[.val (.int p1), .val (.int p2), .val (.int p3), .val (.int p4), .val (.int p5), .val (.int p6), .val (.int ((p1 &&& (255 : Int32)) % (7 : Int32))), .val (.int v3), .val (.int v7), .val (.int v11), .val (.int v15), .val (.int v19), .val (.int v23), .val (.int v27), .val (.ref b30), .val (.ref b39), .unset, .unset, .unset, .unset, .unset, .unset] [(.ref b61), (.ref b50), (.ref b50)])) tg
    refine XS.dup X61.here hx rfl (hb hby at_166) rfl rfl ?_
    show Steps p.tables e below (T61.setTop (mkF m 167 #[.val (.int p1), .val (.int p2), .val (.int p3), .val (.int p4), .val (.int p5), .val (.int p6), .val (.int ((p1 &&& (255 : Int32)) % (7 : Int32))), .val (.int v3), .val (.int v7), .val (.int v11), .val (.int v15), .val (.int v19), .val (.int v23), .val (.int v27), .val (.ref b30), .val (.ref b39), .unset, .unset, .unset, .unset, .unset, .unset] [(.ref b61), (.ref b61), (.ref b50), (.ref b50)])) tg
    refine XS.aload X61.here hx rfl (hb hby at_167) rfl rfl ?_
    exact kt
  obtain ⟨_, _, ⟨T75, L75, k75, n75⟩, -, X75, ⟨Lc75, hQ75, l75, y75, z75⟩, st75⟩ := X61.specialBack hx (y := (⟨"java/lang/String", "<init>", "([C)V"⟩ : MethodName)) rfl hown (mvT hZ (hw _ (List.mem_of_getElem? (i := 7) rfl))) (mvT hZ (hw _ (List.mem_of_getElem? (i := 8) rfl))) (mvT hZ (hw _ (List.mem_of_getElem? (i := 9) rfl))) (by decide) (StrChars.Road.backV (W := 3) hZ hws (kI := 4) (hw _ (List.mem_of_getElem? (i := 5) rfl)) (cs := [(nar .char ((((p6.toUInt32 >>> ((8 : Int32) &&& 31).toUInt32).toInt32) &&& (255 : Int32)).toUInt32.toUInt16.toUInt32.toInt32))]) (bs := [((nar .char ((((p6.toUInt32 >>> ((8 : Int32) &&& 31).toUInt32).toInt32) &&& (255 : Int32)).toUInt32.toUInt16.toUInt32.toInt32))).toInt8.toInt32]) (n := 1) (n0 := n0) g_b61 Z61 G71 G73 G72 G63 (Sta.ext G62.2 S_c) hwc rfl rfl (by decide) (by decide) (own_hp ((p6.toUInt32 >>> ((8 : Int32) &&& 31).toUInt32).toInt32)) rfl (by decide) (by decide)) (g := (mkF m 169 #[.val (.int p1), .val (.int p2), .val (.int p3), .val (.int p4), .val (.int p5), .val (.int p6), .val (.int ((p1 &&& (255 : Int32)) % (7 : Int32))), .val (.int v3), .val (.int v7), .val (.int v11), .val (.int v15), .val (.int v19), .val (.int v23), .val (.int v27), .val (.ref b30), .val (.ref b39), .unset, .unset, .unset, .unset, .unset, .unset] [(.ref b30), (.ref b61), (.ref b61), (.ref b50), (.ref b50)])) rfl (by rw [hml]; rfl) (Steps.refl _) (a := b61) (argsL := [(.ref b30)]) (rest := [(.ref b61), (.ref b50), (.ref b50)]) (lenOf pd_1 rfl) rfl (by show 2 * 0 + _ ≤ _; exact Nat.le_of_eq rfl) (hb hby at_169) (fun _ _ => ⟨rfl, e61, (by decide : 4 + 1 ≤ _), (by decide : 11 + 1 ≤ _)⟩)
  dsimp only [Pt.U, Pt.locs, Pt.cells, Pt.slots] at X75 l75 y75 z75 st75 hQ75
  subst l75 y75 z75
  obtain ⟨rfl, N75q, K75q, E75q, C75q, tq75, kq75, -, -, -, V75q, -⟩ := hQ75
  have N75 := Fr.app N45 N75q
  have G76 : Old Z n0 T75.heap := G62.keep K75q (allS g_b61 (all0))
  have G77 : Arv Z T75.heap b30 k30 .char (1 : Int32) [(.int (nar .char ((((p6.toUInt32 >>> ((8 : Int32) &&& 31).toUInt32).toInt32) &&& (255 : Int32)).toUInt32.toUInt16.toUInt32.toInt32)))] (.int (0 : Int32)) := G63.keep K75q (ninS ne_b30_b61 (nin0))
  have G78 : Arv Z T75.heap b39 k39 .char (1 : Int32) [(.int (nar .char ((((p6.toUInt32 >>> ((16 : Int32) &&& 31).toUInt32).toInt32) &&& (255 : Int32)).toUInt32.toUInt16.toUInt32.toInt32)))] (.int (0 : Int32)) := G64.keep K75q (ninS ne_b39_b61 (nin0))
  have G79 : Exa Z T75.heap b50 "com/example/bingli/bingli/conformance/DataElementFormat" := G65.keep K75q
  have G80 : Fld Z T75.heap b50 "com/example/bingli/bingli/conformance/DataElementFormat" "printed" "Ljava/lang/String;" .null := G66.keep K75q (ninS ne_b50_b61 (nin0))
  have G81 : Fld Z T75.heap b50 "com/example/bingli/bingli/conformance/DataElementFormat" "kind" "Lcom/example/bingli/bingli/conformance/DataElementFormat$Kind;" .null := G67.keep K75q (ninS ne_b50_b61 (nin0))
  have G82 : Fld Z T75.heap b50 "com/example/bingli/bingli/conformance/DataElementFormat" "minimum" "I" (.int (0 : Int32)) := G68.keep K75q (ninS ne_b50_b61 (nin0))
  have G83 : Fld Z T75.heap b50 "com/example/bingli/bingli/conformance/DataElementFormat" "maximum" "I" (.int (0 : Int32)) := G69.keep K75q (ninS ne_b50_b61 (nin0))
  have G84 : Fld Z T75.heap b50 "com/example/bingli/bingli/conformance/DataElementFormat" "scale" "I" (.int (0 : Int32)) := G70.keep K75q (ninS ne_b50_b61 (nin0))
  have G85 : Exa Z T75.heap b61 "java/lang/String" := G71.keep K75q
  have K75 : Keep h0 T75.heap [] := K61.trans K75q (allS (Or.inr sz_b61) all0)
  have Z75 : n0 ≤ T75.heap.size := Nat.le_trans Z61 K75q.1
  have st86 : ∀ tg, Steps p.tables e below (T75.setTop (mkF m 174 #[.val (.int p1), .val (.int p2), .val (.int p3), .val (.int p4), .val (.int p5), .val (.int p6), .val (.int ((p1 &&& (255 : Int32)) % (7 : Int32))), .val (.int v3), .val (.int v7), .val (.int v11), .val (.int v15), .val (.int v19), .val (.int v23), .val (.int v27), .val (.ref b30), .val (.ref b39), .unset, .unset, .unset, .unset, .unset, .unset] [(.int ((p1 &&& (255 : Int32)) % (7 : Int32))), (.ref b61), (.ref b50), (.ref b50)])) tg → Steps p.tables e below (T75.setTop (mkF m 172 #[.val (.int p1), .val (.int p2), .val (.int p3), .val (.int p4), .val (.int p5), .val (.int p6), .val (.int ((p1 &&& (255 : Int32)) % (7 : Int32))), .val (.int v3), .val (.int v7), .val (.int v11), .val (.int v15), .val (.int v19), .val (.int v23), .val (.int v27), .val (.ref b30), .val (.ref b39), .unset, .unset, .unset, .unset, .unset, .unset] [(.ref b61), (.ref b50), (.ref b50)])) tg := by
    intro tg kt
    show Steps p.tables e below (T75.setTop (mkF m 172 #[.val (.int p1), .val (.int p2), .val (.int p3), .val (.int p4), .val (.int p5), .val (.int p6), .val (.int ((p1 &&& (255 : Int32)) % (7 : Int32))), .val (.int v3), .val (.int v7), .val (.int v11), .val (.int v15), .val (.int v19), .val (.int v23), .val (.int v27), .val (.ref b30), .val (.ref b39), .unset, .unset, .unset, .unset, .unset, .unset] [(.ref b61), (.ref b50), (.ref b50)])) tg
    refine XS.iload X75.here hx rfl (hb hby at_172) rfl ?_
    exact kt
  obtain ⟨_, _, ⟨T87, L87, k87, n87⟩, -, X87, ⟨Lc87, hQ87, l87, y87, z87⟩, st87⟩ := Jvm.LawKit.callS X75 hx (y := (⟨"com/example/bingli/bingli/conformance/DataElementFormatSameAsPinLaw", "kind", "(I)Lcom/example/bingli/bingli/conformance/DataElementFormat$Kind;"⟩ : MethodName)) hown (mvT hZ (hw _ (List.mem_of_getElem? (i := 33) rfl))) (mvT hZ (hw _ (List.mem_of_getElem? (i := 34) rfl))) (mvT hZ (hw _ (List.mem_of_getElem? (i := 35) rfl))) (mvT hZ (hw _ (List.mem_of_getElem? (i := 36) rfl))) (by decide) (backOf (W := 3) (rm7 l Z a0 hw [] ((p1 &&& (255 : Int32)) % (7 : Int32)) w0 w1 w2 w3 w4 w5 w6 T75.heap n0 Z75 G76 S_LETTERS S_TEXT S_DIGITS S_DECIMAL S_DATE S_DATE_TIME S_LOGICAL) hZ (hw _ (List.mem_of_getElem? (i := 36) rfl)) (hw _ (List.mem_of_getElem? (i := 35) rfl)) (by decide) (by decide)) (g := (mkF m 174 #[.val (.int p1), .val (.int p2), .val (.int p3), .val (.int p4), .val (.int p5), .val (.int p6), .val (.int ((p1 &&& (255 : Int32)) % (7 : Int32))), .val (.int v3), .val (.int v7), .val (.int v11), .val (.int v15), .val (.int v19), .val (.int v23), .val (.int v27), .val (.ref b30), .val (.ref b39), .unset, .unset, .unset, .unset, .unset, .unset] [(.int ((p1 &&& (255 : Int32)) % (7 : Int32))), (.ref b61), (.ref b50), (.ref b50)])) rfl (by rw [hml]; rfl) (argsL := [(.int ((p1 &&& (255 : Int32)) % (7 : Int32)))]) (rest := [(.ref b61), (.ref b50), (.ref b50)]) (lenOf pd_2 rfl) rfl (by show 2 * 0 + _ ≤ _; exact Nat.le_of_eq rfl) (hb hby at_174) (fun _ _ => ⟨rfl, rfl, (by decide : 5 + 0 ≤ _), (by decide : 12 + 0 ≤ _)⟩)
  dsimp only [Pt.U, Pt.locs, Pt.cells, Pt.slots] at X87 l87 y87 z87 st87 hQ87
  subst l87 y87 z87
  obtain ⟨rfl, N87q, e87⟩ := hQ87
  have N87 := Fr.app N75 N87q
  obtain ⟨r87, hr87⟩ : ∃ z, z = rv7 ((p1 &&& (255 : Int32)) % (7 : Int32)) w0 w1 w2 w3 w4 w5 w6 := ⟨_, rfl⟩
  rw [← hr87] at st87
  have st88 : ∀ tg, Steps p.tables e below (T87.setTop (mkF m 180 #[.val (.int p1), .val (.int p2), .val (.int p3), .val (.int p4), .val (.int p5), .val (.int p6), .val (.int ((p1 &&& (255 : Int32)) % (7 : Int32))), .val (.int v3), .val (.int v7), .val (.int v11), .val (.int v15), .val (.int v19), .val (.int v23), .val (.int v27), .val (.ref b30), .val (.ref b39), .unset, .unset, .unset, .unset, .unset, .unset] [(.int p4), (.int p3), (.int p2), (.ref r87), (.ref b61), (.ref b50), (.ref b50)])) tg → Steps p.tables e below (T87.setTop (mkF m 177 #[.val (.int p1), .val (.int p2), .val (.int p3), .val (.int p4), .val (.int p5), .val (.int p6), .val (.int ((p1 &&& (255 : Int32)) % (7 : Int32))), .val (.int v3), .val (.int v7), .val (.int v11), .val (.int v15), .val (.int v19), .val (.int v23), .val (.int v27), .val (.ref b30), .val (.ref b39), .unset, .unset, .unset, .unset, .unset, .unset] [(.ref r87), (.ref b61), (.ref b50), (.ref b50)])) tg := by
    intro tg kt
    show Steps p.tables e below (T87.setTop (mkF m 177 #[.val (.int p1), .val (.int p2), .val (.int p3), .val (.int p4), .val (.int p5), .val (.int p6), .val (.int ((p1 &&& (255 : Int32)) % (7 : Int32))), .val (.int v3), .val (.int v7), .val (.int v11), .val (.int v15), .val (.int v19), .val (.int v23), .val (.int v27), .val (.ref b30), .val (.ref b39), .unset, .unset, .unset, .unset, .unset, .unset] [(.ref r87), (.ref b61), (.ref b50), (.ref b50)])) tg
    refine XS.iloadN X87.here hx rfl (hb hby at_177) rfl ?_
    show Steps p.tables e below (T87.setTop (mkF m 178 #[.val (.int p1), .val (.int p2), .val (.int p3), .val (.int p4), .val (.int p5), .val (.int p6), .val (.int ((p1 &&& (255 : Int32)) % (7 : Int32))), .val (.int v3), .val (.int v7), .val (.int v11), .val (.int v15), .val (.int v19), .val (.int v23), .val (.int v27), .val (.ref b30), .val (.ref b39), .unset, .unset, .unset, .unset, .unset, .unset] [(.int p2), (.ref r87), (.ref b61), (.ref b50), (.ref b50)])) tg
    refine XS.iloadN X87.here hx rfl (hb hby at_178) rfl ?_
    show Steps p.tables e below (T87.setTop (mkF m 179 #[.val (.int p1), .val (.int p2), .val (.int p3), .val (.int p4), .val (.int p5), .val (.int p6), .val (.int ((p1 &&& (255 : Int32)) % (7 : Int32))), .val (.int v3), .val (.int v7), .val (.int v11), .val (.int v15), .val (.int v19), .val (.int v23), .val (.int v27), .val (.ref b30), .val (.ref b39), .unset, .unset, .unset, .unset, .unset, .unset] [(.int p3), (.int p2), (.ref r87), (.ref b61), (.ref b50), (.ref b50)])) tg
    refine XS.iloadN X87.here hx rfl (hb hby at_179) rfl ?_
    exact kt
  obtain ⟨_, _, ⟨T89, L89, k89, n89⟩, -, X89, ⟨Lc89, hQ89, l89, y89, z89⟩, st89⟩ := X87.specialBack hx (y := (⟨"com/example/bingli/bingli/conformance/DataElementFormat", "<init>", "(Ljava/lang/String;Lcom/example/bingli/bingli/conformance/DataElementFormat$Kind;III)V"⟩ : MethodName)) rfl hown (mvT hZ (hw _ (List.mem_of_getElem? (i := 40) rfl))) (mvT hZ (hw _ (List.mem_of_getElem? (i := 41) rfl))) (mvT hZ (hw _ (List.mem_of_getElem? (i := 42) rfl))) (by decide) (backOf (W := 1) (rm8 l Z a0 hw [] b50 b61 r87 p2 p3 p4 T75.heap n0 Z75 G80 G81 G82 G83 G84 G79 g_b50) hZ (hw _ (List.mem_of_getElem? (i := 42) rfl)) (hw _ (List.mem_of_getElem? (i := 3) rfl)) (by decide) (by decide)) (g := (mkF m 180 #[.val (.int p1), .val (.int p2), .val (.int p3), .val (.int p4), .val (.int p5), .val (.int p6), .val (.int ((p1 &&& (255 : Int32)) % (7 : Int32))), .val (.int v3), .val (.int v7), .val (.int v11), .val (.int v15), .val (.int v19), .val (.int v23), .val (.int v27), .val (.ref b30), .val (.ref b39), .unset, .unset, .unset, .unset, .unset, .unset] [(.int p4), (.int p3), (.int p2), (.ref r87), (.ref b61), (.ref b50), (.ref b50)])) rfl (by rw [hml]; rfl) (Steps.refl _) (a := b50) (argsL := [(.ref b61), (.ref r87), (.int p2), (.int p3), (.int p4)]) (rest := [(.ref b50)]) (lenOf pd_3 rfl) rfl (by show 2 * 0 + _ ≤ _; exact Nat.le_of_eq rfl) (hb hby at_180) (fun _ _ => ⟨rfl, e87, (by decide : 5 + 0 ≤ _), (by decide : 12 + 0 ≤ _)⟩)
  dsimp only [Pt.U, Pt.locs, Pt.cells, Pt.slots] at X89 l89 y89 z89 st89 hQ89
  subst l89 y89 z89
  obtain ⟨rfl, N89q, K89q, E89q, F89q0, F89q1, F89q2, F89q3, F89q4⟩ := hQ89
  have N89 := Fr.app N87 N89q
  have G90 : Old Z n0 T89.heap := G76.keep K89q (allS g_b50 (all0))
  have G91 : Arv Z T89.heap b30 k30 .char (1 : Int32) [(.int (nar .char ((((p6.toUInt32 >>> ((8 : Int32) &&& 31).toUInt32).toInt32) &&& (255 : Int32)).toUInt32.toUInt16.toUInt32.toInt32)))] (.int (0 : Int32)) := G77.keep K89q (ninS ne_b30_b50 (nin0))
  have G92 : Arv Z T89.heap b39 k39 .char (1 : Int32) [(.int (nar .char ((((p6.toUInt32 >>> ((16 : Int32) &&& 31).toUInt32).toInt32) &&& (255 : Int32)).toUInt32.toUInt16.toUInt32.toInt32)))] (.int (0 : Int32)) := G78.keep K89q (ninS ne_b39_b50 (nin0))
  have G93 : Exa Z T89.heap b50 "com/example/bingli/bingli/conformance/DataElementFormat" := G79.keep K89q
  have G94 : Exa Z T89.heap b61 "java/lang/String" := G85.keep K89q
  have K89 : Keep h0 T89.heap [] := K75.trans K89q (allS (Or.inr sz_b50) all0)
  have Z89 : n0 ≤ T89.heap.size := Nat.le_trans Z75 K89q.1
  have st95 : ∀ tg, Steps p.tables e below (T89.setTop (mkF m 185 #[.val (.int p1), .val (.int p2), .val (.int p3), .val (.int p4), .val (.int p5), .val (.int p6), .val (.int ((p1 &&& (255 : Int32)) % (7 : Int32))), .val (.int v3), .val (.int v7), .val (.int v11), .val (.int v15), .val (.int v19), .val (.int v23), .val (.int v27), .val (.ref b30), .val (.ref b39), .val (.ref b50), .unset, .unset, .unset, .unset, .unset] [])) tg → Steps p.tables e below (T89.setTop (mkF m 183 #[.val (.int p1), .val (.int p2), .val (.int p3), .val (.int p4), .val (.int p5), .val (.int p6), .val (.int ((p1 &&& (255 : Int32)) % (7 : Int32))), .val (.int v3), .val (.int v7), .val (.int v11), .val (.int v15), .val (.int v19), .val (.int v23), .val (.int v27), .val (.ref b30), .val (.ref b39), .unset, .unset, .unset, .unset, .unset, .unset] [(.ref b50)])) tg := by
    intro tg kt
    show Steps p.tables e below (T89.setTop (mkF m 183 #[.val (.int p1), .val (.int p2), .val (.int p3), .val (.int p4), .val (.int p5), .val (.int p6), .val (.int ((p1 &&& (255 : Int32)) % (7 : Int32))), .val (.int v3), .val (.int v7), .val (.int v11), .val (.int v15), .val (.int v19), .val (.int v23), .val (.int v27), .val (.ref b30), .val (.ref b39), .unset, .unset, .unset, .unset, .unset, .unset] [(.ref b50)])) tg
    refine XS.astore X89.here hx rfl (hb hby at_183) rfl rfl (l' := #[.val (.int p1), .val (.int p2), .val (.int p3), .val (.int p4), .val (.int p5), .val (.int p6), .val (.int ((p1 &&& (255 : Int32)) % (7 : Int32))), .val (.int v3), .val (.int v7), .val (.int v11), .val (.int v15), .val (.int v19), .val (.int v23), .val (.int v27), .val (.ref b30), .val (.ref b39), .val (.ref b50), .unset, .unset, .unset, .unset, .unset]) rfl ?_
    exact kt
  obtain ⟨T96, h96, X96, e96, E96, A96, D96, -, st96⟩ := newO X89 hx hZ hown (hw _ (List.mem_of_getElem? (i := 1) rfl)) (hw _ (List.mem_of_getElem? (i := 2) rfl)) (hw _ (List.mem_of_getElem? (i := 3) rfl)) rfl (g := (mkF m 185 #[.val (.int p1), .val (.int p2), .val (.int p3), .val (.int p4), .val (.int p5), .val (.int p6), .val (.int ((p1 &&& (255 : Int32)) % (7 : Int32))), .val (.int v3), .val (.int v7), .val (.int v11), .val (.int v15), .val (.int v19), .val (.int v23), .val (.int v27), .val (.ref b30), .val (.ref b39), .val (.ref b50), .unset, .unset, .unset, .unset, .unset] [])) rfl (hb hby at_185) (by decide) (by decide)
  obtain ⟨b96, gz96⟩ : ∃ z, z = T89.heap.size := ⟨_, rfl⟩
  rw [← gz96] at A96 D96 st96
  have ne_b30_b96 : b30 ≠ b96 := Nat.ne_of_lt (Nat.lt_of_lt_of_le G91.lt (Nat.le_of_eq gz96.symm))
  have ne_b39_b96 : b39 ≠ b96 := Nat.ne_of_lt (Nat.lt_of_lt_of_le G92.lt (Nat.le_of_eq gz96.symm))
  have ne_b50_b96 : b50 ≠ b96 := Nat.ne_of_lt (Nat.lt_of_lt_of_le E89q.lt (Nat.le_of_eq gz96.symm))
  have ne_b61_b96 : b61 ≠ b96 := Nat.ne_of_lt (Nat.lt_of_lt_of_le G94.lt (Nat.le_of_eq gz96.symm))
  have g_b96 : n0 ≤ b96 := Nat.le_trans Z89 (Nat.le_of_eq gz96.symm)
  have sz_b96 : h0.size ≤ b96 := Nat.le_trans K89.1 (Nat.le_of_eq gz96.symm)
  have G97 : Old Z n0 h96 := G90.ext E96
  have G98 : Arv Z h96 b30 k30 .char (1 : Int32) [(.int (nar .char ((((p6.toUInt32 >>> ((8 : Int32) &&& 31).toUInt32).toInt32) &&& (255 : Int32)).toUInt32.toUInt16.toUInt32.toInt32)))] (.int (0 : Int32)) := G91.ext E96
  have G99 : Arv Z h96 b39 k39 .char (1 : Int32) [(.int (nar .char ((((p6.toUInt32 >>> ((16 : Int32) &&& 31).toUInt32).toInt32) &&& (255 : Int32)).toUInt32.toUInt16.toUInt32.toInt32)))] (.int (0 : Int32)) := G92.ext E96
  have G100 : Exa Z h96 b50 "com/example/bingli/bingli/conformance/DataElementFormat" := E89q.ext E96
  have G101 : Exa Z h96 b61 "java/lang/String" := G94.ext E96
  have G102 : Fld Z h96 b50 "com/example/bingli/bingli/conformance/DataElementFormat" "printed" "Ljava/lang/String;" (.ref b61) := F89q0.ext E96
  have G103 : Fld Z h96 b50 "com/example/bingli/bingli/conformance/DataElementFormat" "kind" "Lcom/example/bingli/bingli/conformance/DataElementFormat$Kind;" (.ref r87) := F89q1.ext E96
  have G104 : Fld Z h96 b50 "com/example/bingli/bingli/conformance/DataElementFormat" "minimum" "I" (.int p2) := F89q2.ext E96
  have G105 : Fld Z h96 b50 "com/example/bingli/bingli/conformance/DataElementFormat" "maximum" "I" (.int p3) := F89q3.ext E96
  have G106 : Fld Z h96 b50 "com/example/bingli/bingli/conformance/DataElementFormat" "scale" "I" (.int p4) := F89q4.ext E96
  have K96 : Keep h0 h96 [] := K89.ext E96
  have Z96 : n0 ≤ h96.size := Nat.le_trans Z89 E96.1
  have G107 : Exa Z h96 b96 "com/example/bingli/bingli/conformance/DataElementFormat" := A96
  have G108 : Fld Z h96 b96 "com/example/bingli/bingli/conformance/DataElementFormat" "printed" "Ljava/lang/String;" .null := D96 (Or.inr (hw _ (List.mem_of_getElem? (i := 50) rfl))) (ty := (.object "java/lang/String")) (by decide)
  have G109 : Fld Z h96 b96 "com/example/bingli/bingli/conformance/DataElementFormat" "kind" "Lcom/example/bingli/bingli/conformance/DataElementFormat$Kind;" .null := D96 (Or.inr (hw _ (List.mem_of_getElem? (i := 52) rfl))) (ty := (.object "com/example/bingli/bingli/conformance/DataElementFormat$Kind")) (by decide)
  have G110 : Fld Z h96 b96 "com/example/bingli/bingli/conformance/DataElementFormat" "minimum" "I" (.int (0 : Int32)) := D96 (Or.inr (hw _ (List.mem_of_getElem? (i := 54) rfl))) (ty := .int) (by decide)
  have G111 : Fld Z h96 b96 "com/example/bingli/bingli/conformance/DataElementFormat" "maximum" "I" (.int (0 : Int32)) := D96 (Or.inr (hw _ (List.mem_of_getElem? (i := 56) rfl))) (ty := .int) (by decide)
  have G112 : Fld Z h96 b96 "com/example/bingli/bingli/conformance/DataElementFormat" "scale" "I" (.int (0 : Int32)) := D96 (Or.inr (hw _ (List.mem_of_getElem? (i := 58) rfl))) (ty := .int) (by decide)
  have st113 : ∀ tg, Steps p.tables e below (T96.setTop (mkF m 189 #[.val (.int p1), .val (.int p2), .val (.int p3), .val (.int p4), .val (.int p5), .val (.int p6), .val (.int ((p1 &&& (255 : Int32)) % (7 : Int32))), .val (.int v3), .val (.int v7), .val (.int v11), .val (.int v15), .val (.int v19), .val (.int v23), .val (.int v27), .val (.ref b30), .val (.ref b39), .val (.ref b50), .unset, .unset, .unset, .unset, .unset] [(.ref b96), (.ref b96)])) tg → Steps p.tables e below (T96.setTop (mkF m 188 #[.val (.int p1), .val (.int p2), .val (.int p3), .val (.int p4), .val (.int p5), .val (.int p6), .val (.int ((p1 &&& (255 : Int32)) % (7 : Int32))), .val (.int v3), .val (.int v7), .val (.int v11), .val (.int v15), .val (.int v19), .val (.int v23), .val (.int v27), .val (.ref b30), .val (.ref b39), .val (.ref b50), .unset, .unset, .unset, .unset, .unset] [(.ref b96)])) tg := by
    intro tg kt
    show Steps p.tables e below (T96.setTop (mkF m 188 #[.val (.int p1), .val (.int p2), .val (.int p3), .val (.int p4), .val (.int p5), .val (.int p6), .val (.int ((p1 &&& (255 : Int32)) % (7 : Int32))), .val (.int v3), .val (.int v7), .val (.int v11), .val (.int v15), .val (.int v19), .val (.int v23), .val (.int v27), .val (.ref b30), .val (.ref b39), .val (.ref b50), .unset, .unset, .unset, .unset, .unset] [(.ref b96)])) tg
    refine XS.dup X96.here hx rfl (hb hby at_188) rfl rfl ?_
    exact kt
  obtain ⟨T114, h114, X114, e114, E114, A114, D114, -, st114⟩ := newO X96 hx hZ hown (hw _ (List.mem_of_getElem? (i := 4) rfl)) (hw _ (List.mem_of_getElem? (i := 5) rfl)) (hw _ (List.mem_of_getElem? (i := 6) rfl)) e96 (g := (mkF m 189 #[.val (.int p1), .val (.int p2), .val (.int p3), .val (.int p4), .val (.int p5), .val (.int p6), .val (.int ((p1 &&& (255 : Int32)) % (7 : Int32))), .val (.int v3), .val (.int v7), .val (.int v11), .val (.int v15), .val (.int v19), .val (.int v23), .val (.int v27), .val (.ref b30), .val (.ref b39), .val (.ref b50), .unset, .unset, .unset, .unset, .unset] [(.ref b96), (.ref b96)])) rfl (hb hby at_189) (by decide) (by decide)
  obtain ⟨b114, gz114⟩ : ∃ z, z = h96.size := ⟨_, rfl⟩
  rw [← gz114] at A114 D114 st114
  have ne_b30_b114 : b30 ≠ b114 := Nat.ne_of_lt (Nat.lt_of_lt_of_le G98.lt (Nat.le_of_eq gz114.symm))
  have ne_b39_b114 : b39 ≠ b114 := Nat.ne_of_lt (Nat.lt_of_lt_of_le G99.lt (Nat.le_of_eq gz114.symm))
  have ne_b50_b114 : b50 ≠ b114 := Nat.ne_of_lt (Nat.lt_of_lt_of_le G100.lt (Nat.le_of_eq gz114.symm))
  have ne_b61_b114 : b61 ≠ b114 := Nat.ne_of_lt (Nat.lt_of_lt_of_le G101.lt (Nat.le_of_eq gz114.symm))
  have ne_b96_b114 : b96 ≠ b114 := Nat.ne_of_lt (Nat.lt_of_lt_of_le G107.lt (Nat.le_of_eq gz114.symm))
  have g_b114 : n0 ≤ b114 := Nat.le_trans Z96 (Nat.le_of_eq gz114.symm)
  have sz_b114 : h0.size ≤ b114 := Nat.le_trans K96.1 (Nat.le_of_eq gz114.symm)
  have G115 : Old Z n0 h114 := G97.ext E114
  have G116 : Arv Z h114 b30 k30 .char (1 : Int32) [(.int (nar .char ((((p6.toUInt32 >>> ((8 : Int32) &&& 31).toUInt32).toInt32) &&& (255 : Int32)).toUInt32.toUInt16.toUInt32.toInt32)))] (.int (0 : Int32)) := G98.ext E114
  have G117 : Arv Z h114 b39 k39 .char (1 : Int32) [(.int (nar .char ((((p6.toUInt32 >>> ((16 : Int32) &&& 31).toUInt32).toInt32) &&& (255 : Int32)).toUInt32.toUInt16.toUInt32.toInt32)))] (.int (0 : Int32)) := G99.ext E114
  have G118 : Exa Z h114 b50 "com/example/bingli/bingli/conformance/DataElementFormat" := G100.ext E114
  have G119 : Exa Z h114 b61 "java/lang/String" := G101.ext E114
  have G120 : Fld Z h114 b50 "com/example/bingli/bingli/conformance/DataElementFormat" "printed" "Ljava/lang/String;" (.ref b61) := G102.ext E114
  have G121 : Fld Z h114 b50 "com/example/bingli/bingli/conformance/DataElementFormat" "kind" "Lcom/example/bingli/bingli/conformance/DataElementFormat$Kind;" (.ref r87) := G103.ext E114
  have G122 : Fld Z h114 b50 "com/example/bingli/bingli/conformance/DataElementFormat" "minimum" "I" (.int p2) := G104.ext E114
  have G123 : Fld Z h114 b50 "com/example/bingli/bingli/conformance/DataElementFormat" "maximum" "I" (.int p3) := G105.ext E114
  have G124 : Fld Z h114 b50 "com/example/bingli/bingli/conformance/DataElementFormat" "scale" "I" (.int p4) := G106.ext E114
  have G125 : Exa Z h114 b96 "com/example/bingli/bingli/conformance/DataElementFormat" := G107.ext E114
  have G126 : Fld Z h114 b96 "com/example/bingli/bingli/conformance/DataElementFormat" "printed" "Ljava/lang/String;" .null := G108.ext E114
  have G127 : Fld Z h114 b96 "com/example/bingli/bingli/conformance/DataElementFormat" "kind" "Lcom/example/bingli/bingli/conformance/DataElementFormat$Kind;" .null := G109.ext E114
  have G128 : Fld Z h114 b96 "com/example/bingli/bingli/conformance/DataElementFormat" "minimum" "I" (.int (0 : Int32)) := G110.ext E114
  have G129 : Fld Z h114 b96 "com/example/bingli/bingli/conformance/DataElementFormat" "maximum" "I" (.int (0 : Int32)) := G111.ext E114
  have G130 : Fld Z h114 b96 "com/example/bingli/bingli/conformance/DataElementFormat" "scale" "I" (.int (0 : Int32)) := G112.ext E114
  have K114 : Keep h0 h114 [] := K96.ext E114
  have Z114 : n0 ≤ h114.size := Nat.le_trans Z96 E114.1
  have G131 : Exa Z h114 b114 "java/lang/String" := A114
  have G132 : Fld Z h114 b114 "java/lang/String" "coder" "B" (.int (0 : Int32)) := D114 (Or.inr (hw _ (List.mem_of_getElem? (i := 30) rfl))) (ty := .byte) (by decide)
  have G133 : Fld Z h114 b114 "java/lang/String" "value" "[B" .null := D114 (Or.inr (hw _ (List.mem_of_getElem? (i := 32) rfl))) (ty := (.array .byte)) (by decide)
  have st134 : ∀ tg, Steps p.tables e below (T114.setTop (mkF m 195 #[.val (.int p1), .val (.int p2), .val (.int p3), .val (.int p4), .val (.int p5), .val (.int p6), .val (.int ((p1 &&& (255 : Int32)) % (7 : Int32))), .val (.int v3), .val (.int v7), .val (.int v11), .val (.int v15), .val (.int v19), .val (.int v23), .val (.int v27), .val (.ref b30), .val (.ref b39), .val (.ref b50), .unset, .unset, .unset, .unset, .unset] [(.ref b39), (.ref b114), (.ref b114), (.ref b96), (.ref b96)])) tg → Steps p.tables e below (T114.setTop (mkF m 192 #[.val (.int p1), .val (.int p2), .val (.int p3), .val (.int p4), .val (.int p5), .val (.int p6), .val (.int ((p1 &&& (255 : Int32)) % (7 : Int32))), .val (.int v3), .val (.int v7), .val (.int v11), .val (.int v15), .val (.int v19), .val (.int v23), .val (.int v27), .val (.ref b30), .val (.ref b39), .val (.ref b50), .unset, .unset, .unset, .unset, .unset] [(.ref b114), (.ref b96), (.ref b96)])) tg := by
    intro tg kt
    show Steps p.tables e below (T114.setTop (mkF m 192 #[.val (.int p1), .val (.int p2), .val (.int p3), .val (.int p4), .val (.int p5), .val (.int p6), .val (.int ((p1 &&& (255 : Int32)) % (7 : Int32))), .val (.int v3), .val (.int v7), .val (.int v11), .val (.int v15), .val (.int v19), .val (.int v23), .val (.int v27), .val (.ref b30), .val (.ref b39), .val (.ref b50), .unset, .unset, .unset, .unset, .unset] [(.ref b114), (.ref b96), (.ref b96)])) tg
    refine XS.dup X114.here hx rfl (hb hby at_192) rfl rfl ?_
    show Steps p.tables e below (T114.setTop (mkF m 193 #[.val (.int p1), .val (.int p2), .val (.int p3), .val (.int p4), .val (.int p5), .val (.int p6), .val (.int ((p1 &&& (255 : Int32)) % (7 : Int32))), .val (.int v3), .val (.int v7), .val (.int v11), .val (.int v15), .val (.int v19), .val (.int v23), .val (.int v27), .val (.ref b30), .val (.ref b39), .val (.ref b50), .unset, .unset, .unset, .unset, .unset] [(.ref b114), (.ref b114), (.ref b96), (.ref b96)])) tg
    refine XS.aload X114.here hx rfl (hb hby at_193) rfl rfl ?_
    exact kt
  obtain ⟨_, _, ⟨T135, L135, k135, n135⟩, -, X135, ⟨Lc135, hQ135, l135, y135, z135⟩, st135⟩ := X114.specialBack hx (y := (⟨"java/lang/String", "<init>", "([C)V"⟩ : MethodName)) rfl hown (mvT hZ (hw _ (List.mem_of_getElem? (i := 7) rfl))) (mvT hZ (hw _ (List.mem_of_getElem? (i := 8) rfl))) (mvT hZ (hw _ (List.mem_of_getElem? (i := 9) rfl))) (by decide) (StrChars.Road.backV (W := 3) hZ hws (kI := 4) (hw _ (List.mem_of_getElem? (i := 5) rfl)) (cs := [(nar .char ((((p6.toUInt32 >>> ((16 : Int32) &&& 31).toUInt32).toInt32) &&& (255 : Int32)).toUInt32.toUInt16.toUInt32.toInt32))]) (bs := [((nar .char ((((p6.toUInt32 >>> ((16 : Int32) &&& 31).toUInt32).toInt32) &&& (255 : Int32)).toUInt32.toUInt16.toUInt32.toInt32))).toInt8.toInt32]) (n := 1) (n0 := n0) g_b114 Z114 G131 G133 G132 G117 (Sta.ext G115.2 S_c) hwc rfl rfl (by decide) (by decide) (own_hp ((p6.toUInt32 >>> ((16 : Int32) &&& 31).toUInt32).toInt32)) rfl (by decide) (by decide)) (g := (mkF m 195 #[.val (.int p1), .val (.int p2), .val (.int p3), .val (.int p4), .val (.int p5), .val (.int p6), .val (.int ((p1 &&& (255 : Int32)) % (7 : Int32))), .val (.int v3), .val (.int v7), .val (.int v11), .val (.int v15), .val (.int v19), .val (.int v23), .val (.int v27), .val (.ref b30), .val (.ref b39), .val (.ref b50), .unset, .unset, .unset, .unset, .unset] [(.ref b39), (.ref b114), (.ref b114), (.ref b96), (.ref b96)])) rfl (by rw [hml]; rfl) (Steps.refl _) (a := b114) (argsL := [(.ref b39)]) (rest := [(.ref b114), (.ref b96), (.ref b96)]) (lenOf pd_1 rfl) rfl (by show 2 * 0 + _ ≤ _; exact Nat.le_of_eq rfl) (hb hby at_195) (fun _ _ => ⟨rfl, e114, (by decide : 7 + 1 ≤ _), (by decide : 21 + 1 ≤ _)⟩)
  dsimp only [Pt.U, Pt.locs, Pt.cells, Pt.slots] at X135 l135 y135 z135 st135 hQ135
  subst l135 y135 z135
  obtain ⟨rfl, N135q, K135q, E135q, C135q, tq135, kq135, -, -, -, V135q, -⟩ := hQ135
  have N135 := Fr.app N89 N135q
  have G136 : Old Z n0 T135.heap := G115.keep K135q (allS g_b114 (all0))
  have G137 : Arv Z T135.heap b30 k30 .char (1 : Int32) [(.int (nar .char ((((p6.toUInt32 >>> ((8 : Int32) &&& 31).toUInt32).toInt32) &&& (255 : Int32)).toUInt32.toUInt16.toUInt32.toInt32)))] (.int (0 : Int32)) := G116.keep K135q (ninS ne_b30_b114 (nin0))
  have G138 : Arv Z T135.heap b39 k39 .char (1 : Int32) [(.int (nar .char ((((p6.toUInt32 >>> ((16 : Int32) &&& 31).toUInt32).toInt32) &&& (255 : Int32)).toUInt32.toUInt16.toUInt32.toInt32)))] (.int (0 : Int32)) := G117.keep K135q (ninS ne_b39_b114 (nin0))
  have G139 : Exa Z T135.heap b50 "com/example/bingli/bingli/conformance/DataElementFormat" := G118.keep K135q
  have G140 : Exa Z T135.heap b61 "java/lang/String" := G119.keep K135q
  have G141 : Fld Z T135.heap b50 "com/example/bingli/bingli/conformance/DataElementFormat" "printed" "Ljava/lang/String;" (.ref b61) := G120.keep K135q (ninS ne_b50_b114 (nin0))
  have G142 : Fld Z T135.heap b50 "com/example/bingli/bingli/conformance/DataElementFormat" "kind" "Lcom/example/bingli/bingli/conformance/DataElementFormat$Kind;" (.ref r87) := G121.keep K135q (ninS ne_b50_b114 (nin0))
  have G143 : Fld Z T135.heap b50 "com/example/bingli/bingli/conformance/DataElementFormat" "minimum" "I" (.int p2) := G122.keep K135q (ninS ne_b50_b114 (nin0))
  have G144 : Fld Z T135.heap b50 "com/example/bingli/bingli/conformance/DataElementFormat" "maximum" "I" (.int p3) := G123.keep K135q (ninS ne_b50_b114 (nin0))
  have G145 : Fld Z T135.heap b50 "com/example/bingli/bingli/conformance/DataElementFormat" "scale" "I" (.int p4) := G124.keep K135q (ninS ne_b50_b114 (nin0))
  have G146 : Exa Z T135.heap b96 "com/example/bingli/bingli/conformance/DataElementFormat" := G125.keep K135q
  have G147 : Fld Z T135.heap b96 "com/example/bingli/bingli/conformance/DataElementFormat" "printed" "Ljava/lang/String;" .null := G126.keep K135q (ninS ne_b96_b114 (nin0))
  have G148 : Fld Z T135.heap b96 "com/example/bingli/bingli/conformance/DataElementFormat" "kind" "Lcom/example/bingli/bingli/conformance/DataElementFormat$Kind;" .null := G127.keep K135q (ninS ne_b96_b114 (nin0))
  have G149 : Fld Z T135.heap b96 "com/example/bingli/bingli/conformance/DataElementFormat" "minimum" "I" (.int (0 : Int32)) := G128.keep K135q (ninS ne_b96_b114 (nin0))
  have G150 : Fld Z T135.heap b96 "com/example/bingli/bingli/conformance/DataElementFormat" "maximum" "I" (.int (0 : Int32)) := G129.keep K135q (ninS ne_b96_b114 (nin0))
  have G151 : Fld Z T135.heap b96 "com/example/bingli/bingli/conformance/DataElementFormat" "scale" "I" (.int (0 : Int32)) := G130.keep K135q (ninS ne_b96_b114 (nin0))
  have G152 : Exa Z T135.heap b114 "java/lang/String" := G131.keep K135q
  have K135 : Keep h0 T135.heap [] := K114.trans K135q (allS (Or.inr sz_b114) all0)
  have Z135 : n0 ≤ T135.heap.size := Nat.le_trans Z114 K135q.1
  have st153 : ∀ tg, Steps p.tables e below (T135.setTop (mkF m 200 #[.val (.int p1), .val (.int p2), .val (.int p3), .val (.int p4), .val (.int p5), .val (.int p6), .val (.int ((p1 &&& (255 : Int32)) % (7 : Int32))), .val (.int v3), .val (.int v7), .val (.int v11), .val (.int v15), .val (.int v19), .val (.int v23), .val (.int v27), .val (.ref b30), .val (.ref b39), .val (.ref b50), .unset, .unset, .unset, .unset, .unset] [(.int v3), (.ref b114), (.ref b96), (.ref b96)])) tg → Steps p.tables e below (T135.setTop (mkF m 198 #[.val (.int p1), .val (.int p2), .val (.int p3), .val (.int p4), .val (.int p5), .val (.int p6), .val (.int ((p1 &&& (255 : Int32)) % (7 : Int32))), .val (.int v3), .val (.int v7), .val (.int v11), .val (.int v15), .val (.int v19), .val (.int v23), .val (.int v27), .val (.ref b30), .val (.ref b39), .val (.ref b50), .unset, .unset, .unset, .unset, .unset] [(.ref b114), (.ref b96), (.ref b96)])) tg := by
    intro tg kt
    show Steps p.tables e below (T135.setTop (mkF m 198 #[.val (.int p1), .val (.int p2), .val (.int p3), .val (.int p4), .val (.int p5), .val (.int p6), .val (.int ((p1 &&& (255 : Int32)) % (7 : Int32))), .val (.int v3), .val (.int v7), .val (.int v11), .val (.int v15), .val (.int v19), .val (.int v23), .val (.int v27), .val (.ref b30), .val (.ref b39), .val (.ref b50), .unset, .unset, .unset, .unset, .unset] [(.ref b114), (.ref b96), (.ref b96)])) tg
    refine XS.iload X135.here hx rfl (hb hby at_198) rfl ?_
    exact kt
  obtain ⟨_, _, ⟨T154, L154, k154, n154⟩, -, X154, ⟨Lc154, hQ154, l154, y154, z154⟩, st154⟩ := Jvm.LawKit.callS X135 hx (y := (⟨"com/example/bingli/bingli/conformance/DataElementFormatSameAsPinLaw", "kind", "(I)Lcom/example/bingli/bingli/conformance/DataElementFormat$Kind;"⟩ : MethodName)) hown (mvT hZ (hw _ (List.mem_of_getElem? (i := 33) rfl))) (mvT hZ (hw _ (List.mem_of_getElem? (i := 34) rfl))) (mvT hZ (hw _ (List.mem_of_getElem? (i := 35) rfl))) (mvT hZ (hw _ (List.mem_of_getElem? (i := 36) rfl))) (by decide) (backOf (W := 3) (rm7 l Z a0 hw [] v3 w0 w1 w2 w3 w4 w5 w6 T135.heap n0 Z135 G136 S_LETTERS S_TEXT S_DIGITS S_DECIMAL S_DATE S_DATE_TIME S_LOGICAL) hZ (hw _ (List.mem_of_getElem? (i := 36) rfl)) (hw _ (List.mem_of_getElem? (i := 35) rfl)) (by decide) (by decide)) (g := (mkF m 200 #[.val (.int p1), .val (.int p2), .val (.int p3), .val (.int p4), .val (.int p5), .val (.int p6), .val (.int ((p1 &&& (255 : Int32)) % (7 : Int32))), .val (.int v3), .val (.int v7), .val (.int v11), .val (.int v15), .val (.int v19), .val (.int v23), .val (.int v27), .val (.ref b30), .val (.ref b39), .val (.ref b50), .unset, .unset, .unset, .unset, .unset] [(.int v3), (.ref b114), (.ref b96), (.ref b96)])) rfl (by rw [hml]; rfl) (argsL := [(.int v3)]) (rest := [(.ref b114), (.ref b96), (.ref b96)]) (lenOf pd_2 rfl) rfl (by show 2 * 0 + _ ≤ _; exact Nat.le_of_eq rfl) (hb hby at_200) (fun _ _ => ⟨rfl, rfl, (by decide : 8 + 0 ≤ _), (by decide : 22 + 0 ≤ _)⟩)
  dsimp only [Pt.U, Pt.locs, Pt.cells, Pt.slots] at X154 l154 y154 z154 st154 hQ154
  subst l154 y154 z154
  obtain ⟨rfl, N154q, e154⟩ := hQ154
  have N154 := Fr.app N135 N154q
  obtain ⟨r154, hr154⟩ : ∃ z, z = rv7 v3 w0 w1 w2 w3 w4 w5 w6 := ⟨_, rfl⟩
  rw [← hr154] at st154
  have st155 : ∀ tg, Steps p.tables e below (T154.setTop (mkF m 209 #[.val (.int p1), .val (.int p2), .val (.int p3), .val (.int p4), .val (.int p5), .val (.int p6), .val (.int ((p1 &&& (255 : Int32)) % (7 : Int32))), .val (.int v3), .val (.int v7), .val (.int v11), .val (.int v15), .val (.int v19), .val (.int v23), .val (.int v27), .val (.ref b30), .val (.ref b39), .val (.ref b50), .unset, .unset, .unset, .unset, .unset] [(.int v27), (.int v23), (.int v19), (.ref r154), (.ref b114), (.ref b96), (.ref b96)])) tg → Steps p.tables e below (T154.setTop (mkF m 203 #[.val (.int p1), .val (.int p2), .val (.int p3), .val (.int p4), .val (.int p5), .val (.int p6), .val (.int ((p1 &&& (255 : Int32)) % (7 : Int32))), .val (.int v3), .val (.int v7), .val (.int v11), .val (.int v15), .val (.int v19), .val (.int v23), .val (.int v27), .val (.ref b30), .val (.ref b39), .val (.ref b50), .unset, .unset, .unset, .unset, .unset] [(.ref r154), (.ref b114), (.ref b96), (.ref b96)])) tg := by
    intro tg kt
    show Steps p.tables e below (T154.setTop (mkF m 203 #[.val (.int p1), .val (.int p2), .val (.int p3), .val (.int p4), .val (.int p5), .val (.int p6), .val (.int ((p1 &&& (255 : Int32)) % (7 : Int32))), .val (.int v3), .val (.int v7), .val (.int v11), .val (.int v15), .val (.int v19), .val (.int v23), .val (.int v27), .val (.ref b30), .val (.ref b39), .val (.ref b50), .unset, .unset, .unset, .unset, .unset] [(.ref r154), (.ref b114), (.ref b96), (.ref b96)])) tg
    refine XS.iload X154.here hx rfl (hb hby at_203) rfl ?_
    show Steps p.tables e below (T154.setTop (mkF m 205 #[.val (.int p1), .val (.int p2), .val (.int p3), .val (.int p4), .val (.int p5), .val (.int p6), .val (.int ((p1 &&& (255 : Int32)) % (7 : Int32))), .val (.int v3), .val (.int v7), .val (.int v11), .val (.int v15), .val (.int v19), .val (.int v23), .val (.int v27), .val (.ref b30), .val (.ref b39), .val (.ref b50), .unset, .unset, .unset, .unset, .unset] [(.int v19), (.ref r154), (.ref b114), (.ref b96), (.ref b96)])) tg
    refine XS.iload X154.here hx rfl (hb hby at_205) rfl ?_
    show Steps p.tables e below (T154.setTop (mkF m 207 #[.val (.int p1), .val (.int p2), .val (.int p3), .val (.int p4), .val (.int p5), .val (.int p6), .val (.int ((p1 &&& (255 : Int32)) % (7 : Int32))), .val (.int v3), .val (.int v7), .val (.int v11), .val (.int v15), .val (.int v19), .val (.int v23), .val (.int v27), .val (.ref b30), .val (.ref b39), .val (.ref b50), .unset, .unset, .unset, .unset, .unset] [(.int v23), (.int v19), (.ref r154), (.ref b114), (.ref b96), (.ref b96)])) tg
    refine XS.iload X154.here hx rfl (hb hby at_207) rfl ?_
    exact kt
  obtain ⟨_, _, ⟨T156, L156, k156, n156⟩, -, X156, ⟨Lc156, hQ156, l156, y156, z156⟩, st156⟩ := X154.specialBack hx (y := (⟨"com/example/bingli/bingli/conformance/DataElementFormat", "<init>", "(Ljava/lang/String;Lcom/example/bingli/bingli/conformance/DataElementFormat$Kind;III)V"⟩ : MethodName)) rfl hown (mvT hZ (hw _ (List.mem_of_getElem? (i := 40) rfl))) (mvT hZ (hw _ (List.mem_of_getElem? (i := 41) rfl))) (mvT hZ (hw _ (List.mem_of_getElem? (i := 42) rfl))) (by decide) (backOf (W := 1) (rm8 l Z a0 hw [] b96 b114 r154 v19 v23 v27 T135.heap n0 Z135 G147 G148 G149 G150 G151 G146 g_b96) hZ (hw _ (List.mem_of_getElem? (i := 42) rfl)) (hw _ (List.mem_of_getElem? (i := 3) rfl)) (by decide) (by decide)) (g := (mkF m 209 #[.val (.int p1), .val (.int p2), .val (.int p3), .val (.int p4), .val (.int p5), .val (.int p6), .val (.int ((p1 &&& (255 : Int32)) % (7 : Int32))), .val (.int v3), .val (.int v7), .val (.int v11), .val (.int v15), .val (.int v19), .val (.int v23), .val (.int v27), .val (.ref b30), .val (.ref b39), .val (.ref b50), .unset, .unset, .unset, .unset, .unset] [(.int v27), (.int v23), (.int v19), (.ref r154), (.ref b114), (.ref b96), (.ref b96)])) rfl (by rw [hml]; rfl) (Steps.refl _) (a := b96) (argsL := [(.ref b114), (.ref r154), (.int v19), (.int v23), (.int v27)]) (rest := [(.ref b96)]) (lenOf pd_3 rfl) rfl (by show 2 * 0 + _ ≤ _; exact Nat.le_of_eq rfl) (hb hby at_209) (fun _ _ => ⟨rfl, e154, (by decide : 8 + 0 ≤ _), (by decide : 22 + 0 ≤ _)⟩)
  dsimp only [Pt.U, Pt.locs, Pt.cells, Pt.slots] at X156 l156 y156 z156 st156 hQ156
  subst l156 y156 z156
  obtain ⟨rfl, N156q, K156q, E156q, F156q0, F156q1, F156q2, F156q3, F156q4⟩ := hQ156
  have N156 := Fr.app N154 N156q
  have G157 : Old Z n0 T156.heap := G136.keep K156q (allS g_b96 (all0))
  have G158 : Arv Z T156.heap b30 k30 .char (1 : Int32) [(.int (nar .char ((((p6.toUInt32 >>> ((8 : Int32) &&& 31).toUInt32).toInt32) &&& (255 : Int32)).toUInt32.toUInt16.toUInt32.toInt32)))] (.int (0 : Int32)) := G137.keep K156q (ninS ne_b30_b96 (nin0))
  have G159 : Arv Z T156.heap b39 k39 .char (1 : Int32) [(.int (nar .char ((((p6.toUInt32 >>> ((16 : Int32) &&& 31).toUInt32).toInt32) &&& (255 : Int32)).toUInt32.toUInt16.toUInt32.toInt32)))] (.int (0 : Int32)) := G138.keep K156q (ninS ne_b39_b96 (nin0))
  have G160 : Exa Z T156.heap b50 "com/example/bingli/bingli/conformance/DataElementFormat" := G139.keep K156q
  have G161 : Exa Z T156.heap b61 "java/lang/String" := G140.keep K156q
  have G162 : Fld Z T156.heap b50 "com/example/bingli/bingli/conformance/DataElementFormat" "printed" "Ljava/lang/String;" (.ref b61) := G141.keep K156q (ninS ne_b50_b96 (nin0))
  have G163 : Fld Z T156.heap b50 "com/example/bingli/bingli/conformance/DataElementFormat" "kind" "Lcom/example/bingli/bingli/conformance/DataElementFormat$Kind;" (.ref r87) := G142.keep K156q (ninS ne_b50_b96 (nin0))
  have G164 : Fld Z T156.heap b50 "com/example/bingli/bingli/conformance/DataElementFormat" "minimum" "I" (.int p2) := G143.keep K156q (ninS ne_b50_b96 (nin0))
  have G165 : Fld Z T156.heap b50 "com/example/bingli/bingli/conformance/DataElementFormat" "maximum" "I" (.int p3) := G144.keep K156q (ninS ne_b50_b96 (nin0))
  have G166 : Fld Z T156.heap b50 "com/example/bingli/bingli/conformance/DataElementFormat" "scale" "I" (.int p4) := G145.keep K156q (ninS ne_b50_b96 (nin0))
  have G167 : Exa Z T156.heap b96 "com/example/bingli/bingli/conformance/DataElementFormat" := G146.keep K156q
  have G168 : Exa Z T156.heap b114 "java/lang/String" := G152.keep K156q
  have K156 : Keep h0 T156.heap [] := K135.trans K156q (allS (Or.inr sz_b96) all0)
  have Z156 : n0 ≤ T156.heap.size := Nat.le_trans Z135 K156q.1
  have st170 : ∀ tg, Steps p.tables e below (T156.setTop (mkF m 218 #[.val (.int p1), .val (.int p2), .val (.int p3), .val (.int p4), .val (.int p5), .val (.int p6), .val (.int ((p1 &&& (255 : Int32)) % (7 : Int32))), .val (.int v3), .val (.int v7), .val (.int v11), .val (.int v15), .val (.int v19), .val (.int v23), .val (.int v27), .val (.ref b30), .val (.ref b39), .val (.ref b50), .val (.ref b96), .unset, .unset, .unset, .unset] [(.int v3), (.int ((p1 &&& (255 : Int32)) % (7 : Int32)))])) tg → Steps p.tables e below (T156.setTop (mkF m 212 #[.val (.int p1), .val (.int p2), .val (.int p3), .val (.int p4), .val (.int p5), .val (.int p6), .val (.int ((p1 &&& (255 : Int32)) % (7 : Int32))), .val (.int v3), .val (.int v7), .val (.int v11), .val (.int v15), .val (.int v19), .val (.int v23), .val (.int v27), .val (.ref b30), .val (.ref b39), .val (.ref b50), .unset, .unset, .unset, .unset, .unset] [(.ref b96)])) tg := by
    intro tg kt
    show Steps p.tables e below (T156.setTop (mkF m 212 #[.val (.int p1), .val (.int p2), .val (.int p3), .val (.int p4), .val (.int p5), .val (.int p6), .val (.int ((p1 &&& (255 : Int32)) % (7 : Int32))), .val (.int v3), .val (.int v7), .val (.int v11), .val (.int v15), .val (.int v19), .val (.int v23), .val (.int v27), .val (.ref b30), .val (.ref b39), .val (.ref b50), .unset, .unset, .unset, .unset, .unset] [(.ref b96)])) tg
    refine XS.astore X156.here hx rfl (hb hby at_212) rfl rfl (l' := #[.val (.int p1), .val (.int p2), .val (.int p3), .val (.int p4), .val (.int p5), .val (.int p6), .val (.int ((p1 &&& (255 : Int32)) % (7 : Int32))), .val (.int v3), .val (.int v7), .val (.int v11), .val (.int v15), .val (.int v19), .val (.int v23), .val (.int v27), .val (.ref b30), .val (.ref b39), .val (.ref b50), .val (.ref b96), .unset, .unset, .unset, .unset]) rfl ?_
    show Steps p.tables e below (T156.setTop (mkF m 214 #[.val (.int p1), .val (.int p2), .val (.int p3), .val (.int p4), .val (.int p5), .val (.int p6), .val (.int ((p1 &&& (255 : Int32)) % (7 : Int32))), .val (.int v3), .val (.int v7), .val (.int v11), .val (.int v15), .val (.int v19), .val (.int v23), .val (.int v27), .val (.ref b30), .val (.ref b39), .val (.ref b50), .val (.ref b96), .unset, .unset, .unset, .unset] [])) tg
    refine XS.iload X156.here hx rfl (hb hby at_214) rfl ?_
    show Steps p.tables e below (T156.setTop (mkF m 216 #[.val (.int p1), .val (.int p2), .val (.int p3), .val (.int p4), .val (.int p5), .val (.int p6), .val (.int ((p1 &&& (255 : Int32)) % (7 : Int32))), .val (.int v3), .val (.int v7), .val (.int v11), .val (.int v15), .val (.int v19), .val (.int v23), .val (.int v27), .val (.ref b30), .val (.ref b39), .val (.ref b50), .val (.ref b96), .unset, .unset, .unset, .unset] [(.int ((p1 &&& (255 : Int32)) % (7 : Int32)))])) tg
    refine XS.iload X156.here hx rfl (hb hby at_216) rfl ?_
    exact kt
  obtain ⟨v179, hv179⟩ : ∃ z, z = if v15 = 0 then (1 : Int32) else (0 : Int32) := ⟨_, rfl⟩
  obtain ⟨v181, hv181⟩ : ∃ z, z = if v11 = 0 then v179 else (0 : Int32) := ⟨_, rfl⟩
  obtain ⟨v183, hv183⟩ : ∃ z, z = if v7 = 0 then v181 else (0 : Int32) := ⟨_, rfl⟩
  obtain ⟨v185, hv185⟩ : ∃ z, z = if p5 = 0 then (1 : Int32) else v183 := ⟨_, rfl⟩
  obtain ⟨v187, hv187⟩ : ∃ z, z = if ((p1 &&& (255 : Int32)) % (7 : Int32)) = v3 then v185 else (0 : Int32) := ⟨_, rfl⟩
  have st188 : ∀ tg, Steps p.tables e below (T156.setTop (mkF m 246 #[.val (.int p1), .val (.int p2), .val (.int p3), .val (.int p4), .val (.int p5), .val (.int p6), .val (.int ((p1 &&& (255 : Int32)) % (7 : Int32))), .val (.int v3), .val (.int v7), .val (.int v11), .val (.int v15), .val (.int v19), .val (.int v23), .val (.int v27), .val (.ref b30), .val (.ref b39), .val (.ref b50), .val (.ref b96), .unset, .unset, .unset, .unset] [(.int v187)])) tg → Steps p.tables e below (T156.setTop (mkF m 218 #[.val (.int p1), .val (.int p2), .val (.int p3), .val (.int p4), .val (.int p5), .val (.int p6), .val (.int ((p1 &&& (255 : Int32)) % (7 : Int32))), .val (.int v3), .val (.int v7), .val (.int v11), .val (.int v15), .val (.int v19), .val (.int v23), .val (.int v27), .val (.ref b30), .val (.ref b39), .val (.ref b50), .val (.ref b96), .unset, .unset, .unset, .unset] [(.int v3), (.int ((p1 &&& (255 : Int32)) % (7 : Int32)))])) tg := by
    intro tg kt
    by_cases hc218_169 : ((p1 &&& (255 : Int32)) % (7 : Int32)) = v3
    · have qv187 : v187 = v185 := hv187.trans (if_pos hc218_169)
      rw [qv187] at kt
      have st172 : ∀ tg, Steps p.tables e below (T156.setTop (mkF m 223 #[.val (.int p1), .val (.int p2), .val (.int p3), .val (.int p4), .val (.int p5), .val (.int p6), .val (.int ((p1 &&& (255 : Int32)) % (7 : Int32))), .val (.int v3), .val (.int v7), .val (.int v11), .val (.int v15), .val (.int v19), .val (.int v23), .val (.int v27), .val (.ref b30), .val (.ref b39), .val (.ref b50), .val (.ref b96), .unset, .unset, .unset, .unset] [(.int p5)])) tg → Steps p.tables e below (T156.setTop (mkF m 218 #[.val (.int p1), .val (.int p2), .val (.int p3), .val (.int p4), .val (.int p5), .val (.int p6), .val (.int ((p1 &&& (255 : Int32)) % (7 : Int32))), .val (.int v3), .val (.int v7), .val (.int v11), .val (.int v15), .val (.int v19), .val (.int v23), .val (.int v27), .val (.ref b30), .val (.ref b39), .val (.ref b50), .val (.ref b96), .unset, .unset, .unset, .unset] [(.int v3), (.int ((p1 &&& (255 : Int32)) % (7 : Int32)))])) tg := by
        intro tg kt
        show Steps p.tables e below (T156.setTop (mkF m 218 #[.val (.int p1), .val (.int p2), .val (.int p3), .val (.int p4), .val (.int p5), .val (.int p6), .val (.int ((p1 &&& (255 : Int32)) % (7 : Int32))), .val (.int v3), .val (.int v7), .val (.int v11), .val (.int v15), .val (.int v19), .val (.int v23), .val (.int v27), .val (.ref b30), .val (.ref b39), .val (.ref b50), .val (.ref b96), .unset, .unset, .unset, .unset] [(.int v3), (.int ((p1 &&& (255 : Int32)) % (7 : Int32)))])) tg
        refine XS.icmpNo X156.here hx rfl (hb hby at_218) rfl (XT.ii_ne_f hc218_169) ?_
        show Steps p.tables e below (T156.setTop (mkF m 221 #[.val (.int p1), .val (.int p2), .val (.int p3), .val (.int p4), .val (.int p5), .val (.int p6), .val (.int ((p1 &&& (255 : Int32)) % (7 : Int32))), .val (.int v3), .val (.int v7), .val (.int v11), .val (.int v15), .val (.int v19), .val (.int v23), .val (.int v27), .val (.ref b30), .val (.ref b39), .val (.ref b50), .val (.ref b96), .unset, .unset, .unset, .unset] [])) tg
        refine XS.iload X156.here hx rfl (hb hby at_221) rfl ?_
        exact kt
      have st186 : ∀ tg, Steps p.tables e below (T156.setTop (mkF m 246 #[.val (.int p1), .val (.int p2), .val (.int p3), .val (.int p4), .val (.int p5), .val (.int p6), .val (.int ((p1 &&& (255 : Int32)) % (7 : Int32))), .val (.int v3), .val (.int v7), .val (.int v11), .val (.int v15), .val (.int v19), .val (.int v23), .val (.int v27), .val (.ref b30), .val (.ref b39), .val (.ref b50), .val (.ref b96), .unset, .unset, .unset, .unset] [(.int v185)])) tg → Steps p.tables e below (T156.setTop (mkF m 223 #[.val (.int p1), .val (.int p2), .val (.int p3), .val (.int p4), .val (.int p5), .val (.int p6), .val (.int ((p1 &&& (255 : Int32)) % (7 : Int32))), .val (.int v3), .val (.int v7), .val (.int v11), .val (.int v15), .val (.int v19), .val (.int v23), .val (.int v27), .val (.ref b30), .val (.ref b39), .val (.ref b50), .val (.ref b96), .unset, .unset, .unset, .unset] [(.int p5)])) tg := by
        intro tg kt
        by_cases hc223_171 : p5 = 0
        · have qv185 : v185 = (1 : Int32) := hv185.trans (if_pos hc223_171)
          rw [qv185] at kt
          show Steps p.tables e below (T156.setTop (mkF m 223 #[.val (.int p1), .val (.int p2), .val (.int p3), .val (.int p4), .val (.int p5), .val (.int p6), .val (.int ((p1 &&& (255 : Int32)) % (7 : Int32))), .val (.int v3), .val (.int v7), .val (.int v11), .val (.int v15), .val (.int v19), .val (.int v23), .val (.int v27), .val (.ref b30), .val (.ref b39), .val (.ref b50), .val (.ref b96), .unset, .unset, .unset, .unset] [(.int p5)])) tg
          refine XS.ifYes X156.here hx rfl (pc0 := 223) (pc' := 241) rfl (hb hby at_223) rfl (XT.i0_eq_t hc223_171) (by decide) (by decide) ?_
          show Steps p.tables e below (T156.setTop (mkF m 241 #[.val (.int p1), .val (.int p2), .val (.int p3), .val (.int p4), .val (.int p5), .val (.int p6), .val (.int ((p1 &&& (255 : Int32)) % (7 : Int32))), .val (.int v3), .val (.int v7), .val (.int v11), .val (.int v15), .val (.int v19), .val (.int v23), .val (.int v27), .val (.ref b30), .val (.ref b39), .val (.ref b50), .val (.ref b96), .unset, .unset, .unset, .unset] [])) tg
          refine XS.iconst X156.here hx rfl (hb hby at_241) ?_
          show Steps p.tables e below (T156.setTop (mkF m 242 #[.val (.int p1), .val (.int p2), .val (.int p3), .val (.int p4), .val (.int p5), .val (.int p6), .val (.int ((p1 &&& (255 : Int32)) % (7 : Int32))), .val (.int v3), .val (.int v7), .val (.int v11), .val (.int v15), .val (.int v19), .val (.int v23), .val (.int v27), .val (.ref b30), .val (.ref b39), .val (.ref b50), .val (.ref b96), .unset, .unset, .unset, .unset] [(.int (1 : Int32))])) tg
          refine XS.goto X156.here hx rfl (pc0 := 242) (pc' := 246) rfl (hb hby at_242) (by decide) (by decide) ?_
          exact kt
        · have qv185 : v185 = v183 := hv185.trans (if_neg hc223_171)
          rw [qv185] at kt
          have st174 : ∀ tg, Steps p.tables e below (T156.setTop (mkF m 228 #[.val (.int p1), .val (.int p2), .val (.int p3), .val (.int p4), .val (.int p5), .val (.int p6), .val (.int ((p1 &&& (255 : Int32)) % (7 : Int32))), .val (.int v3), .val (.int v7), .val (.int v11), .val (.int v15), .val (.int v19), .val (.int v23), .val (.int v27), .val (.ref b30), .val (.ref b39), .val (.ref b50), .val (.ref b96), .unset, .unset, .unset, .unset] [(.int v7)])) tg → Steps p.tables e below (T156.setTop (mkF m 223 #[.val (.int p1), .val (.int p2), .val (.int p3), .val (.int p4), .val (.int p5), .val (.int p6), .val (.int ((p1 &&& (255 : Int32)) % (7 : Int32))), .val (.int v3), .val (.int v7), .val (.int v11), .val (.int v15), .val (.int v19), .val (.int v23), .val (.int v27), .val (.ref b30), .val (.ref b39), .val (.ref b50), .val (.ref b96), .unset, .unset, .unset, .unset] [(.int p5)])) tg := by
            intro tg kt
            show Steps p.tables e below (T156.setTop (mkF m 223 #[.val (.int p1), .val (.int p2), .val (.int p3), .val (.int p4), .val (.int p5), .val (.int p6), .val (.int ((p1 &&& (255 : Int32)) % (7 : Int32))), .val (.int v3), .val (.int v7), .val (.int v11), .val (.int v15), .val (.int v19), .val (.int v23), .val (.int v27), .val (.ref b30), .val (.ref b39), .val (.ref b50), .val (.ref b96), .unset, .unset, .unset, .unset] [(.int p5)])) tg
            refine XS.ifNo X156.here hx rfl (hb hby at_223) rfl (XT.i0_eq_f hc223_171) ?_
            show Steps p.tables e below (T156.setTop (mkF m 226 #[.val (.int p1), .val (.int p2), .val (.int p3), .val (.int p4), .val (.int p5), .val (.int p6), .val (.int ((p1 &&& (255 : Int32)) % (7 : Int32))), .val (.int v3), .val (.int v7), .val (.int v11), .val (.int v15), .val (.int v19), .val (.int v23), .val (.int v27), .val (.ref b30), .val (.ref b39), .val (.ref b50), .val (.ref b96), .unset, .unset, .unset, .unset] [])) tg
            refine XS.iload X156.here hx rfl (hb hby at_226) rfl ?_
            exact kt
          have st184 : ∀ tg, Steps p.tables e below (T156.setTop (mkF m 246 #[.val (.int p1), .val (.int p2), .val (.int p3), .val (.int p4), .val (.int p5), .val (.int p6), .val (.int ((p1 &&& (255 : Int32)) % (7 : Int32))), .val (.int v3), .val (.int v7), .val (.int v11), .val (.int v15), .val (.int v19), .val (.int v23), .val (.int v27), .val (.ref b30), .val (.ref b39), .val (.ref b50), .val (.ref b96), .unset, .unset, .unset, .unset] [(.int v183)])) tg → Steps p.tables e below (T156.setTop (mkF m 228 #[.val (.int p1), .val (.int p2), .val (.int p3), .val (.int p4), .val (.int p5), .val (.int p6), .val (.int ((p1 &&& (255 : Int32)) % (7 : Int32))), .val (.int v3), .val (.int v7), .val (.int v11), .val (.int v15), .val (.int v19), .val (.int v23), .val (.int v27), .val (.ref b30), .val (.ref b39), .val (.ref b50), .val (.ref b96), .unset, .unset, .unset, .unset] [(.int v7)])) tg := by
            intro tg kt
            by_cases hc228_173 : v7 = 0
            · have qv183 : v183 = v181 := hv183.trans (if_pos hc228_173)
              rw [qv183] at kt
              have st176 : ∀ tg, Steps p.tables e below (T156.setTop (mkF m 233 #[.val (.int p1), .val (.int p2), .val (.int p3), .val (.int p4), .val (.int p5), .val (.int p6), .val (.int ((p1 &&& (255 : Int32)) % (7 : Int32))), .val (.int v3), .val (.int v7), .val (.int v11), .val (.int v15), .val (.int v19), .val (.int v23), .val (.int v27), .val (.ref b30), .val (.ref b39), .val (.ref b50), .val (.ref b96), .unset, .unset, .unset, .unset] [(.int v11)])) tg → Steps p.tables e below (T156.setTop (mkF m 228 #[.val (.int p1), .val (.int p2), .val (.int p3), .val (.int p4), .val (.int p5), .val (.int p6), .val (.int ((p1 &&& (255 : Int32)) % (7 : Int32))), .val (.int v3), .val (.int v7), .val (.int v11), .val (.int v15), .val (.int v19), .val (.int v23), .val (.int v27), .val (.ref b30), .val (.ref b39), .val (.ref b50), .val (.ref b96), .unset, .unset, .unset, .unset] [(.int v7)])) tg := by
                intro tg kt
                show Steps p.tables e below (T156.setTop (mkF m 228 #[.val (.int p1), .val (.int p2), .val (.int p3), .val (.int p4), .val (.int p5), .val (.int p6), .val (.int ((p1 &&& (255 : Int32)) % (7 : Int32))), .val (.int v3), .val (.int v7), .val (.int v11), .val (.int v15), .val (.int v19), .val (.int v23), .val (.int v27), .val (.ref b30), .val (.ref b39), .val (.ref b50), .val (.ref b96), .unset, .unset, .unset, .unset] [(.int v7)])) tg
                refine XS.ifNo X156.here hx rfl (hb hby at_228) rfl (XT.i0_ne_f hc228_173) ?_
                show Steps p.tables e below (T156.setTop (mkF m 231 #[.val (.int p1), .val (.int p2), .val (.int p3), .val (.int p4), .val (.int p5), .val (.int p6), .val (.int ((p1 &&& (255 : Int32)) % (7 : Int32))), .val (.int v3), .val (.int v7), .val (.int v11), .val (.int v15), .val (.int v19), .val (.int v23), .val (.int v27), .val (.ref b30), .val (.ref b39), .val (.ref b50), .val (.ref b96), .unset, .unset, .unset, .unset] [])) tg
                refine XS.iload X156.here hx rfl (hb hby at_231) rfl ?_
                exact kt
              have st182 : ∀ tg, Steps p.tables e below (T156.setTop (mkF m 246 #[.val (.int p1), .val (.int p2), .val (.int p3), .val (.int p4), .val (.int p5), .val (.int p6), .val (.int ((p1 &&& (255 : Int32)) % (7 : Int32))), .val (.int v3), .val (.int v7), .val (.int v11), .val (.int v15), .val (.int v19), .val (.int v23), .val (.int v27), .val (.ref b30), .val (.ref b39), .val (.ref b50), .val (.ref b96), .unset, .unset, .unset, .unset] [(.int v181)])) tg → Steps p.tables e below (T156.setTop (mkF m 233 #[.val (.int p1), .val (.int p2), .val (.int p3), .val (.int p4), .val (.int p5), .val (.int p6), .val (.int ((p1 &&& (255 : Int32)) % (7 : Int32))), .val (.int v3), .val (.int v7), .val (.int v11), .val (.int v15), .val (.int v19), .val (.int v23), .val (.int v27), .val (.ref b30), .val (.ref b39), .val (.ref b50), .val (.ref b96), .unset, .unset, .unset, .unset] [(.int v11)])) tg := by
                intro tg kt
                by_cases hc233_175 : v11 = 0
                · have qv181 : v181 = v179 := hv181.trans (if_pos hc233_175)
                  rw [qv181] at kt
                  have st178 : ∀ tg, Steps p.tables e below (T156.setTop (mkF m 238 #[.val (.int p1), .val (.int p2), .val (.int p3), .val (.int p4), .val (.int p5), .val (.int p6), .val (.int ((p1 &&& (255 : Int32)) % (7 : Int32))), .val (.int v3), .val (.int v7), .val (.int v11), .val (.int v15), .val (.int v19), .val (.int v23), .val (.int v27), .val (.ref b30), .val (.ref b39), .val (.ref b50), .val (.ref b96), .unset, .unset, .unset, .unset] [(.int v15)])) tg → Steps p.tables e below (T156.setTop (mkF m 233 #[.val (.int p1), .val (.int p2), .val (.int p3), .val (.int p4), .val (.int p5), .val (.int p6), .val (.int ((p1 &&& (255 : Int32)) % (7 : Int32))), .val (.int v3), .val (.int v7), .val (.int v11), .val (.int v15), .val (.int v19), .val (.int v23), .val (.int v27), .val (.ref b30), .val (.ref b39), .val (.ref b50), .val (.ref b96), .unset, .unset, .unset, .unset] [(.int v11)])) tg := by
                    intro tg kt
                    show Steps p.tables e below (T156.setTop (mkF m 233 #[.val (.int p1), .val (.int p2), .val (.int p3), .val (.int p4), .val (.int p5), .val (.int p6), .val (.int ((p1 &&& (255 : Int32)) % (7 : Int32))), .val (.int v3), .val (.int v7), .val (.int v11), .val (.int v15), .val (.int v19), .val (.int v23), .val (.int v27), .val (.ref b30), .val (.ref b39), .val (.ref b50), .val (.ref b96), .unset, .unset, .unset, .unset] [(.int v11)])) tg
                    refine XS.ifNo X156.here hx rfl (hb hby at_233) rfl (XT.i0_ne_f hc233_175) ?_
                    show Steps p.tables e below (T156.setTop (mkF m 236 #[.val (.int p1), .val (.int p2), .val (.int p3), .val (.int p4), .val (.int p5), .val (.int p6), .val (.int ((p1 &&& (255 : Int32)) % (7 : Int32))), .val (.int v3), .val (.int v7), .val (.int v11), .val (.int v15), .val (.int v19), .val (.int v23), .val (.int v27), .val (.ref b30), .val (.ref b39), .val (.ref b50), .val (.ref b96), .unset, .unset, .unset, .unset] [])) tg
                    refine XS.iload X156.here hx rfl (hb hby at_236) rfl ?_
                    exact kt
                  have st180 : ∀ tg, Steps p.tables e below (T156.setTop (mkF m 246 #[.val (.int p1), .val (.int p2), .val (.int p3), .val (.int p4), .val (.int p5), .val (.int p6), .val (.int ((p1 &&& (255 : Int32)) % (7 : Int32))), .val (.int v3), .val (.int v7), .val (.int v11), .val (.int v15), .val (.int v19), .val (.int v23), .val (.int v27), .val (.ref b30), .val (.ref b39), .val (.ref b50), .val (.ref b96), .unset, .unset, .unset, .unset] [(.int v179)])) tg → Steps p.tables e below (T156.setTop (mkF m 238 #[.val (.int p1), .val (.int p2), .val (.int p3), .val (.int p4), .val (.int p5), .val (.int p6), .val (.int ((p1 &&& (255 : Int32)) % (7 : Int32))), .val (.int v3), .val (.int v7), .val (.int v11), .val (.int v15), .val (.int v19), .val (.int v23), .val (.int v27), .val (.ref b30), .val (.ref b39), .val (.ref b50), .val (.ref b96), .unset, .unset, .unset, .unset] [(.int v15)])) tg := by
                    intro tg kt
                    by_cases hc238_177 : v15 = 0
                    · have qv179 : v179 = (1 : Int32) := hv179.trans (if_pos hc238_177)
                      rw [qv179] at kt
                      show Steps p.tables e below (T156.setTop (mkF m 238 #[.val (.int p1), .val (.int p2), .val (.int p3), .val (.int p4), .val (.int p5), .val (.int p6), .val (.int ((p1 &&& (255 : Int32)) % (7 : Int32))), .val (.int v3), .val (.int v7), .val (.int v11), .val (.int v15), .val (.int v19), .val (.int v23), .val (.int v27), .val (.ref b30), .val (.ref b39), .val (.ref b50), .val (.ref b96), .unset, .unset, .unset, .unset] [(.int v15)])) tg
                      refine XS.ifNo X156.here hx rfl (hb hby at_238) rfl (XT.i0_ne_f hc238_177) ?_
                      show Steps p.tables e below (T156.setTop (mkF m 241 #[.val (.int p1), .val (.int p2), .val (.int p3), .val (.int p4), .val (.int p5), .val (.int p6), .val (.int ((p1 &&& (255 : Int32)) % (7 : Int32))), .val (.int v3), .val (.int v7), .val (.int v11), .val (.int v15), .val (.int v19), .val (.int v23), .val (.int v27), .val (.ref b30), .val (.ref b39), .val (.ref b50), .val (.ref b96), .unset, .unset, .unset, .unset] [])) tg
                      refine XS.iconst X156.here hx rfl (hb hby at_241) ?_
                      show Steps p.tables e below (T156.setTop (mkF m 242 #[.val (.int p1), .val (.int p2), .val (.int p3), .val (.int p4), .val (.int p5), .val (.int p6), .val (.int ((p1 &&& (255 : Int32)) % (7 : Int32))), .val (.int v3), .val (.int v7), .val (.int v11), .val (.int v15), .val (.int v19), .val (.int v23), .val (.int v27), .val (.ref b30), .val (.ref b39), .val (.ref b50), .val (.ref b96), .unset, .unset, .unset, .unset] [(.int (1 : Int32))])) tg
                      refine XS.goto X156.here hx rfl (pc0 := 242) (pc' := 246) rfl (hb hby at_242) (by decide) (by decide) ?_
                      exact kt
                    · have qv179 : v179 = (0 : Int32) := hv179.trans (if_neg hc238_177)
                      rw [qv179] at kt
                      show Steps p.tables e below (T156.setTop (mkF m 238 #[.val (.int p1), .val (.int p2), .val (.int p3), .val (.int p4), .val (.int p5), .val (.int p6), .val (.int ((p1 &&& (255 : Int32)) % (7 : Int32))), .val (.int v3), .val (.int v7), .val (.int v11), .val (.int v15), .val (.int v19), .val (.int v23), .val (.int v27), .val (.ref b30), .val (.ref b39), .val (.ref b50), .val (.ref b96), .unset, .unset, .unset, .unset] [(.int v15)])) tg
                      refine XS.ifYes X156.here hx rfl (pc0 := 238) (pc' := 245) rfl (hb hby at_238) rfl (XT.i0_ne_t hc238_177) (by decide) (by decide) ?_
                      show Steps p.tables e below (T156.setTop (mkF m 245 #[.val (.int p1), .val (.int p2), .val (.int p3), .val (.int p4), .val (.int p5), .val (.int p6), .val (.int ((p1 &&& (255 : Int32)) % (7 : Int32))), .val (.int v3), .val (.int v7), .val (.int v11), .val (.int v15), .val (.int v19), .val (.int v23), .val (.int v27), .val (.ref b30), .val (.ref b39), .val (.ref b50), .val (.ref b96), .unset, .unset, .unset, .unset] [])) tg
                      refine XS.iconst X156.here hx rfl (hb hby at_245) ?_
                      exact kt
                  refine st178 _ ?_
                  refine st180 _ ?_
                  exact kt
                · have qv181 : v181 = (0 : Int32) := hv181.trans (if_neg hc233_175)
                  rw [qv181] at kt
                  show Steps p.tables e below (T156.setTop (mkF m 233 #[.val (.int p1), .val (.int p2), .val (.int p3), .val (.int p4), .val (.int p5), .val (.int p6), .val (.int ((p1 &&& (255 : Int32)) % (7 : Int32))), .val (.int v3), .val (.int v7), .val (.int v11), .val (.int v15), .val (.int v19), .val (.int v23), .val (.int v27), .val (.ref b30), .val (.ref b39), .val (.ref b50), .val (.ref b96), .unset, .unset, .unset, .unset] [(.int v11)])) tg
                  refine XS.ifYes X156.here hx rfl (pc0 := 233) (pc' := 245) rfl (hb hby at_233) rfl (XT.i0_ne_t hc233_175) (by decide) (by decide) ?_
                  show Steps p.tables e below (T156.setTop (mkF m 245 #[.val (.int p1), .val (.int p2), .val (.int p3), .val (.int p4), .val (.int p5), .val (.int p6), .val (.int ((p1 &&& (255 : Int32)) % (7 : Int32))), .val (.int v3), .val (.int v7), .val (.int v11), .val (.int v15), .val (.int v19), .val (.int v23), .val (.int v27), .val (.ref b30), .val (.ref b39), .val (.ref b50), .val (.ref b96), .unset, .unset, .unset, .unset] [])) tg
                  refine XS.iconst X156.here hx rfl (hb hby at_245) ?_
                  exact kt
              refine st176 _ ?_
              refine st182 _ ?_
              exact kt
            · have qv183 : v183 = (0 : Int32) := hv183.trans (if_neg hc228_173)
              rw [qv183] at kt
              show Steps p.tables e below (T156.setTop (mkF m 228 #[.val (.int p1), .val (.int p2), .val (.int p3), .val (.int p4), .val (.int p5), .val (.int p6), .val (.int ((p1 &&& (255 : Int32)) % (7 : Int32))), .val (.int v3), .val (.int v7), .val (.int v11), .val (.int v15), .val (.int v19), .val (.int v23), .val (.int v27), .val (.ref b30), .val (.ref b39), .val (.ref b50), .val (.ref b96), .unset, .unset, .unset, .unset] [(.int v7)])) tg
              refine XS.ifYes X156.here hx rfl (pc0 := 228) (pc' := 245) rfl (hb hby at_228) rfl (XT.i0_ne_t hc228_173) (by decide) (by decide) ?_
              show Steps p.tables e below (T156.setTop (mkF m 245 #[.val (.int p1), .val (.int p2), .val (.int p3), .val (.int p4), .val (.int p5), .val (.int p6), .val (.int ((p1 &&& (255 : Int32)) % (7 : Int32))), .val (.int v3), .val (.int v7), .val (.int v11), .val (.int v15), .val (.int v19), .val (.int v23), .val (.int v27), .val (.ref b30), .val (.ref b39), .val (.ref b50), .val (.ref b96), .unset, .unset, .unset, .unset] [])) tg
              refine XS.iconst X156.here hx rfl (hb hby at_245) ?_
              exact kt
          refine st174 _ ?_
          refine st184 _ ?_
          exact kt
      refine st172 _ ?_
      refine st186 _ ?_
      exact kt
    · have qv187 : v187 = (0 : Int32) := hv187.trans (if_neg hc218_169)
      rw [qv187] at kt
      show Steps p.tables e below (T156.setTop (mkF m 218 #[.val (.int p1), .val (.int p2), .val (.int p3), .val (.int p4), .val (.int p5), .val (.int p6), .val (.int ((p1 &&& (255 : Int32)) % (7 : Int32))), .val (.int v3), .val (.int v7), .val (.int v11), .val (.int v15), .val (.int v19), .val (.int v23), .val (.int v27), .val (.ref b30), .val (.ref b39), .val (.ref b50), .val (.ref b96), .unset, .unset, .unset, .unset] [(.int v3), (.int ((p1 &&& (255 : Int32)) % (7 : Int32)))])) tg
      refine XS.icmpYes X156.here hx rfl (pc0 := 218) (pc' := 245) rfl (hb hby at_218) rfl (XT.ii_ne_t hc218_169) (by decide) (by decide) ?_
      show Steps p.tables e below (T156.setTop (mkF m 245 #[.val (.int p1), .val (.int p2), .val (.int p3), .val (.int p4), .val (.int p5), .val (.int p6), .val (.int ((p1 &&& (255 : Int32)) % (7 : Int32))), .val (.int v3), .val (.int v7), .val (.int v11), .val (.int v15), .val (.int v19), .val (.int v23), .val (.int v27), .val (.ref b30), .val (.ref b39), .val (.ref b50), .val (.ref b96), .unset, .unset, .unset, .unset] [])) tg
      refine XS.iconst X156.here hx rfl (hb hby at_245) ?_
      exact kt
  have st189 : ∀ tg, Steps p.tables e below (T156.setTop (mkF m 252 #[.val (.int p1), .val (.int p2), .val (.int p3), .val (.int p4), .val (.int p5), .val (.int p6), .val (.int ((p1 &&& (255 : Int32)) % (7 : Int32))), .val (.int v3), .val (.int v7), .val (.int v11), .val (.int v15), .val (.int v19), .val (.int v23), .val (.int v27), .val (.ref b30), .val (.ref b39), .val (.ref b50), .val (.ref b96), .val (.int v187), .unset, .unset, .unset] [(.ref b96), (.ref b50)])) tg → Steps p.tables e below (T156.setTop (mkF m 246 #[.val (.int p1), .val (.int p2), .val (.int p3), .val (.int p4), .val (.int p5), .val (.int p6), .val (.int ((p1 &&& (255 : Int32)) % (7 : Int32))), .val (.int v3), .val (.int v7), .val (.int v11), .val (.int v15), .val (.int v19), .val (.int v23), .val (.int v27), .val (.ref b30), .val (.ref b39), .val (.ref b50), .val (.ref b96), .unset, .unset, .unset, .unset] [(.int v187)])) tg := by
    intro tg kt
    show Steps p.tables e below (T156.setTop (mkF m 246 #[.val (.int p1), .val (.int p2), .val (.int p3), .val (.int p4), .val (.int p5), .val (.int p6), .val (.int ((p1 &&& (255 : Int32)) % (7 : Int32))), .val (.int v3), .val (.int v7), .val (.int v11), .val (.int v15), .val (.int v19), .val (.int v23), .val (.int v27), .val (.ref b30), .val (.ref b39), .val (.ref b50), .val (.ref b96), .unset, .unset, .unset, .unset] [(.int v187)])) tg
    refine XS.istore X156.here hx rfl (hb hby at_246) rfl (l' := #[.val (.int p1), .val (.int p2), .val (.int p3), .val (.int p4), .val (.int p5), .val (.int p6), .val (.int ((p1 &&& (255 : Int32)) % (7 : Int32))), .val (.int v3), .val (.int v7), .val (.int v11), .val (.int v15), .val (.int v19), .val (.int v23), .val (.int v27), .val (.ref b30), .val (.ref b39), .val (.ref b50), .val (.ref b96), .val (.int v187), .unset, .unset, .unset]) rfl ?_
    show Steps p.tables e below (T156.setTop (mkF m 248 #[.val (.int p1), .val (.int p2), .val (.int p3), .val (.int p4), .val (.int p5), .val (.int p6), .val (.int ((p1 &&& (255 : Int32)) % (7 : Int32))), .val (.int v3), .val (.int v7), .val (.int v11), .val (.int v15), .val (.int v19), .val (.int v23), .val (.int v27), .val (.ref b30), .val (.ref b39), .val (.ref b50), .val (.ref b96), .val (.int v187), .unset, .unset, .unset] [])) tg
    refine XS.aload X156.here hx rfl (hb hby at_248) rfl rfl ?_
    show Steps p.tables e below (T156.setTop (mkF m 250 #[.val (.int p1), .val (.int p2), .val (.int p3), .val (.int p4), .val (.int p5), .val (.int p6), .val (.int ((p1 &&& (255 : Int32)) % (7 : Int32))), .val (.int v3), .val (.int v7), .val (.int v11), .val (.int v15), .val (.int v19), .val (.int v23), .val (.int v27), .val (.ref b30), .val (.ref b39), .val (.ref b50), .val (.ref b96), .val (.int v187), .unset, .unset, .unset] [(.ref b50)])) tg
    refine XS.aload X156.here hx rfl (hb hby at_250) rfl rfl ?_
    exact kt
  obtain ⟨cq190, kq190, q190a, q190b, q190c⟩ := isOf hZ rfl G160
  obtain ⟨_, _, ⟨T190, L190, k190, n190⟩, -, X190, ⟨Lc190, hQ190, l190, y190, z190⟩, st190⟩ := X156.virtualBack hx (y := (⟨"com/example/bingli/bingli/conformance/DataElementFormat", "sameAs", "(Lcom/example/bingli/bingli/conformance/DataElementFormat;)Z"⟩ : MethodName)) (z := (⟨"com/example/bingli/bingli/conformance/DataElementFormat", "sameAs", "(Lcom/example/bingli/bingli/conformance/DataElementFormat;)Z"⟩ : MethodName)) hown (mvT hZ (hw _ (List.mem_of_getElem? (i := 59) rfl))) (mvT hZ (hw _ (List.mem_of_getElem? (i := 60) rfl))) (notFace_of_selects (args := #[]) (mvT hZ (hw _ (List.mem_of_getElem? (i := 62) rfl)))) (mvT hZ (hw _ (List.mem_of_getElem? (i := 62) rfl))) (mvT hZ (hw _ (List.mem_of_getElem? (i := 61) rfl))) (by decide) (backOf (W := 0) (rm10 l Z a0 hw [] b50 b96 r87 p2 p3 p4 r154 v19 v23 v27 T156.heap n0 Z156 G163 G164 G165 G166 F156q1 F156q2 F156q3 F156q4) hZ (hw _ (List.mem_of_getElem? (i := 63) rfl)) (hw _ (List.mem_of_getElem? (i := 3) rfl)) (by decide) (by decide)) q190a q190c (g := (mkF m 252 #[.val (.int p1), .val (.int p2), .val (.int p3), .val (.int p4), .val (.int p5), .val (.int p6), .val (.int ((p1 &&& (255 : Int32)) % (7 : Int32))), .val (.int v3), .val (.int v7), .val (.int v11), .val (.int v15), .val (.int v19), .val (.int v23), .val (.int v27), .val (.ref b30), .val (.ref b39), .val (.ref b50), .val (.ref b96), .val (.int v187), .unset, .unset, .unset] [(.ref b96), (.ref b50)])) rfl (by rw [hml]; rfl) (Steps.refl _) (argsL := [(.ref b96)]) (rest := []) (lenOf pd_4 rfl) rfl (by show 2 * 0 + _ ≤ _; exact Nat.le_of_eq rfl) (hb hby at_252) (fun _ _ => ⟨rfl, rfl, (by decide : 8 + 0 ≤ _), (by decide : 22 + 0 ≤ _)⟩)
  dsimp only [Pt.U, Pt.locs, Pt.cells, Pt.slots] at X190 l190 y190 z190 st190 hQ190
  subst l190 y190 z190
  obtain ⟨rfl, N190q, e190⟩ := hQ190
  have N190 := Fr.app N156 N190q
  obtain ⟨r190, hr190⟩ : ∃ z, z = rv10 b50 b96 r87 p2 p3 p4 r154 v19 v23 v27 := ⟨_, rfl⟩
  rw [← hr190] at st190
  have st191 : ∀ tg, Steps p.tables e below (T190.setTop (mkF m 261 #[.val (.int p1), .val (.int p2), .val (.int p3), .val (.int p4), .val (.int p5), .val (.int p6), .val (.int ((p1 &&& (255 : Int32)) % (7 : Int32))), .val (.int v3), .val (.int v7), .val (.int v11), .val (.int v15), .val (.int v19), .val (.int v23), .val (.int v27), .val (.ref b30), .val (.ref b39), .val (.ref b50), .val (.ref b96), .val (.int v187), .val (.int r190), .unset, .unset] [(.ref b50), (.ref b96)])) tg → Steps p.tables e below (T190.setTop (mkF m 255 #[.val (.int p1), .val (.int p2), .val (.int p3), .val (.int p4), .val (.int p5), .val (.int p6), .val (.int ((p1 &&& (255 : Int32)) % (7 : Int32))), .val (.int v3), .val (.int v7), .val (.int v11), .val (.int v15), .val (.int v19), .val (.int v23), .val (.int v27), .val (.ref b30), .val (.ref b39), .val (.ref b50), .val (.ref b96), .val (.int v187), .unset, .unset, .unset] [(.int r190)])) tg := by
    intro tg kt
    show Steps p.tables e below (T190.setTop (mkF m 255 #[.val (.int p1), .val (.int p2), .val (.int p3), .val (.int p4), .val (.int p5), .val (.int p6), .val (.int ((p1 &&& (255 : Int32)) % (7 : Int32))), .val (.int v3), .val (.int v7), .val (.int v11), .val (.int v15), .val (.int v19), .val (.int v23), .val (.int v27), .val (.ref b30), .val (.ref b39), .val (.ref b50), .val (.ref b96), .val (.int v187), .unset, .unset, .unset] [(.int r190)])) tg
    refine XS.istore X190.here hx rfl (hb hby at_255) rfl (l' := #[.val (.int p1), .val (.int p2), .val (.int p3), .val (.int p4), .val (.int p5), .val (.int p6), .val (.int ((p1 &&& (255 : Int32)) % (7 : Int32))), .val (.int v3), .val (.int v7), .val (.int v11), .val (.int v15), .val (.int v19), .val (.int v23), .val (.int v27), .val (.ref b30), .val (.ref b39), .val (.ref b50), .val (.ref b96), .val (.int v187), .val (.int r190), .unset, .unset]) rfl ?_
    show Steps p.tables e below (T190.setTop (mkF m 257 #[.val (.int p1), .val (.int p2), .val (.int p3), .val (.int p4), .val (.int p5), .val (.int p6), .val (.int ((p1 &&& (255 : Int32)) % (7 : Int32))), .val (.int v3), .val (.int v7), .val (.int v11), .val (.int v15), .val (.int v19), .val (.int v23), .val (.int v27), .val (.ref b30), .val (.ref b39), .val (.ref b50), .val (.ref b96), .val (.int v187), .val (.int r190), .unset, .unset] [])) tg
    refine XS.aload X190.here hx rfl (hb hby at_257) rfl rfl ?_
    show Steps p.tables e below (T190.setTop (mkF m 259 #[.val (.int p1), .val (.int p2), .val (.int p3), .val (.int p4), .val (.int p5), .val (.int p6), .val (.int ((p1 &&& (255 : Int32)) % (7 : Int32))), .val (.int v3), .val (.int v7), .val (.int v11), .val (.int v15), .val (.int v19), .val (.int v23), .val (.int v27), .val (.ref b30), .val (.ref b39), .val (.ref b50), .val (.ref b96), .val (.int v187), .val (.int r190), .unset, .unset] [(.ref b96)])) tg
    refine XS.aload X190.here hx rfl (hb hby at_259) rfl rfl ?_
    exact kt
  obtain ⟨cq192, kq192, q192a, q192b, q192c⟩ := isOf hZ e190 E156q
  obtain ⟨_, _, ⟨T192, L192, k192, n192⟩, -, X192, ⟨Lc192, hQ192, l192, y192, z192⟩, st192⟩ := X190.virtualBack hx (y := (⟨"com/example/bingli/bingli/conformance/DataElementFormat", "sameAs", "(Lcom/example/bingli/bingli/conformance/DataElementFormat;)Z"⟩ : MethodName)) (z := (⟨"com/example/bingli/bingli/conformance/DataElementFormat", "sameAs", "(Lcom/example/bingli/bingli/conformance/DataElementFormat;)Z"⟩ : MethodName)) hown (mvT hZ (hw _ (List.mem_of_getElem? (i := 59) rfl))) (mvT hZ (hw _ (List.mem_of_getElem? (i := 60) rfl))) (notFace_of_selects (args := #[]) (mvT hZ (hw _ (List.mem_of_getElem? (i := 62) rfl)))) (mvT hZ (hw _ (List.mem_of_getElem? (i := 62) rfl))) (mvT hZ (hw _ (List.mem_of_getElem? (i := 61) rfl))) (by decide) (backOf (W := 0) (rm10 l Z a0 hw [] b96 b50 r154 v19 v23 v27 r87 p2 p3 p4 T156.heap n0 Z156 F156q1 F156q2 F156q3 F156q4 G163 G164 G165 G166) hZ (hw _ (List.mem_of_getElem? (i := 63) rfl)) (hw _ (List.mem_of_getElem? (i := 3) rfl)) (by decide) (by decide)) q192a q192c (g := (mkF m 261 #[.val (.int p1), .val (.int p2), .val (.int p3), .val (.int p4), .val (.int p5), .val (.int p6), .val (.int ((p1 &&& (255 : Int32)) % (7 : Int32))), .val (.int v3), .val (.int v7), .val (.int v11), .val (.int v15), .val (.int v19), .val (.int v23), .val (.int v27), .val (.ref b30), .val (.ref b39), .val (.ref b50), .val (.ref b96), .val (.int v187), .val (.int r190), .unset, .unset] [(.ref b50), (.ref b96)])) rfl (by rw [hml]; rfl) (Steps.refl _) (argsL := [(.ref b50)]) (rest := []) (lenOf pd_4 rfl) rfl (by show 2 * 0 + _ ≤ _; exact Nat.le_of_eq rfl) (hb hby at_261) (fun _ _ => ⟨rfl, e190, (by decide : 8 + 0 ≤ _), (by decide : 22 + 0 ≤ _)⟩)
  dsimp only [Pt.U, Pt.locs, Pt.cells, Pt.slots] at X192 l192 y192 z192 st192 hQ192
  subst l192 y192 z192
  obtain ⟨rfl, N192q, e192⟩ := hQ192
  have N192 := Fr.app N190 N192q
  obtain ⟨r192, hr192⟩ : ∃ z, z = rv10 b96 b50 r154 v19 v23 v27 r87 p2 p3 p4 := ⟨_, rfl⟩
  rw [← hr192] at st192
  have st193 : ∀ tg, Steps p.tables e below (T192.setTop (mkF m 270 #[.val (.int p1), .val (.int p2), .val (.int p3), .val (.int p4), .val (.int p5), .val (.int p6), .val (.int ((p1 &&& (255 : Int32)) % (7 : Int32))), .val (.int v3), .val (.int v7), .val (.int v11), .val (.int v15), .val (.int v19), .val (.int v23), .val (.int v27), .val (.ref b30), .val (.ref b39), .val (.ref b50), .val (.ref b96), .val (.int v187), .val (.int r190), .val (.int r192), .unset] [(.ref b50), (.ref b50)])) tg → Steps p.tables e below (T192.setTop (mkF m 264 #[.val (.int p1), .val (.int p2), .val (.int p3), .val (.int p4), .val (.int p5), .val (.int p6), .val (.int ((p1 &&& (255 : Int32)) % (7 : Int32))), .val (.int v3), .val (.int v7), .val (.int v11), .val (.int v15), .val (.int v19), .val (.int v23), .val (.int v27), .val (.ref b30), .val (.ref b39), .val (.ref b50), .val (.ref b96), .val (.int v187), .val (.int r190), .unset, .unset] [(.int r192)])) tg := by
    intro tg kt
    show Steps p.tables e below (T192.setTop (mkF m 264 #[.val (.int p1), .val (.int p2), .val (.int p3), .val (.int p4), .val (.int p5), .val (.int p6), .val (.int ((p1 &&& (255 : Int32)) % (7 : Int32))), .val (.int v3), .val (.int v7), .val (.int v11), .val (.int v15), .val (.int v19), .val (.int v23), .val (.int v27), .val (.ref b30), .val (.ref b39), .val (.ref b50), .val (.ref b96), .val (.int v187), .val (.int r190), .unset, .unset] [(.int r192)])) tg
    refine XS.istore X192.here hx rfl (hb hby at_264) rfl (l' := #[.val (.int p1), .val (.int p2), .val (.int p3), .val (.int p4), .val (.int p5), .val (.int p6), .val (.int ((p1 &&& (255 : Int32)) % (7 : Int32))), .val (.int v3), .val (.int v7), .val (.int v11), .val (.int v15), .val (.int v19), .val (.int v23), .val (.int v27), .val (.ref b30), .val (.ref b39), .val (.ref b50), .val (.ref b96), .val (.int v187), .val (.int r190), .val (.int r192), .unset]) rfl ?_
    show Steps p.tables e below (T192.setTop (mkF m 266 #[.val (.int p1), .val (.int p2), .val (.int p3), .val (.int p4), .val (.int p5), .val (.int p6), .val (.int ((p1 &&& (255 : Int32)) % (7 : Int32))), .val (.int v3), .val (.int v7), .val (.int v11), .val (.int v15), .val (.int v19), .val (.int v23), .val (.int v27), .val (.ref b30), .val (.ref b39), .val (.ref b50), .val (.ref b96), .val (.int v187), .val (.int r190), .val (.int r192), .unset] [])) tg
    refine XS.aload X192.here hx rfl (hb hby at_266) rfl rfl ?_
    show Steps p.tables e below (T192.setTop (mkF m 268 #[.val (.int p1), .val (.int p2), .val (.int p3), .val (.int p4), .val (.int p5), .val (.int p6), .val (.int ((p1 &&& (255 : Int32)) % (7 : Int32))), .val (.int v3), .val (.int v7), .val (.int v11), .val (.int v15), .val (.int v19), .val (.int v23), .val (.int v27), .val (.ref b30), .val (.ref b39), .val (.ref b50), .val (.ref b96), .val (.int v187), .val (.int r190), .val (.int r192), .unset] [(.ref b50)])) tg
    refine XS.aload X192.here hx rfl (hb hby at_268) rfl rfl ?_
    exact kt
  obtain ⟨cq194, kq194, q194a, q194b, q194c⟩ := isOf hZ e192 G160
  obtain ⟨_, _, ⟨T194, L194, k194, n194⟩, -, X194, ⟨Lc194, hQ194, l194, y194, z194⟩, st194⟩ := X192.virtualBack hx (y := (⟨"com/example/bingli/bingli/conformance/DataElementFormat", "sameAs", "(Lcom/example/bingli/bingli/conformance/DataElementFormat;)Z"⟩ : MethodName)) (z := (⟨"com/example/bingli/bingli/conformance/DataElementFormat", "sameAs", "(Lcom/example/bingli/bingli/conformance/DataElementFormat;)Z"⟩ : MethodName)) hown (mvT hZ (hw _ (List.mem_of_getElem? (i := 59) rfl))) (mvT hZ (hw _ (List.mem_of_getElem? (i := 60) rfl))) (notFace_of_selects (args := #[]) (mvT hZ (hw _ (List.mem_of_getElem? (i := 62) rfl)))) (mvT hZ (hw _ (List.mem_of_getElem? (i := 62) rfl))) (mvT hZ (hw _ (List.mem_of_getElem? (i := 61) rfl))) (by decide) (backOf (W := 0) (rm10 l Z a0 hw [] b50 b50 r87 p2 p3 p4 r87 p2 p3 p4 T156.heap n0 Z156 G163 G164 G165 G166 G163 G164 G165 G166) hZ (hw _ (List.mem_of_getElem? (i := 63) rfl)) (hw _ (List.mem_of_getElem? (i := 3) rfl)) (by decide) (by decide)) q194a q194c (g := (mkF m 270 #[.val (.int p1), .val (.int p2), .val (.int p3), .val (.int p4), .val (.int p5), .val (.int p6), .val (.int ((p1 &&& (255 : Int32)) % (7 : Int32))), .val (.int v3), .val (.int v7), .val (.int v11), .val (.int v15), .val (.int v19), .val (.int v23), .val (.int v27), .val (.ref b30), .val (.ref b39), .val (.ref b50), .val (.ref b96), .val (.int v187), .val (.int r190), .val (.int r192), .unset] [(.ref b50), (.ref b50)])) rfl (by rw [hml]; rfl) (Steps.refl _) (argsL := [(.ref b50)]) (rest := []) (lenOf pd_4 rfl) rfl (by show 2 * 0 + _ ≤ _; exact Nat.le_of_eq rfl) (hb hby at_270) (fun _ _ => ⟨rfl, e192, (by decide : 8 + 0 ≤ _), (by decide : 22 + 0 ≤ _)⟩)
  dsimp only [Pt.U, Pt.locs, Pt.cells, Pt.slots] at X194 l194 y194 z194 st194 hQ194
  subst l194 y194 z194
  obtain ⟨rfl, N194q, e194⟩ := hQ194
  have N194 := Fr.app N192 N194q
  obtain ⟨r194, hr194⟩ : ∃ z, z = rv10 b50 b50 r87 p2 p3 p4 r87 p2 p3 p4 := ⟨_, rfl⟩
  rw [← hr194] at st194
  have st195 : ∀ tg, Steps p.tables e below (T194.setTop (mkF m 275 #[.val (.int p1), .val (.int p2), .val (.int p3), .val (.int p4), .val (.int p5), .val (.int p6), .val (.int ((p1 &&& (255 : Int32)) % (7 : Int32))), .val (.int v3), .val (.int v7), .val (.int v11), .val (.int v15), .val (.int v19), .val (.int v23), .val (.int v27), .val (.ref b30), .val (.ref b39), .val (.ref b50), .val (.ref b96), .val (.int v187), .val (.int r190), .val (.int r192), .val (.int r194)] [])) tg → Steps p.tables e below (T194.setTop (mkF m 273 #[.val (.int p1), .val (.int p2), .val (.int p3), .val (.int p4), .val (.int p5), .val (.int p6), .val (.int ((p1 &&& (255 : Int32)) % (7 : Int32))), .val (.int v3), .val (.int v7), .val (.int v11), .val (.int v15), .val (.int v19), .val (.int v23), .val (.int v27), .val (.ref b30), .val (.ref b39), .val (.ref b50), .val (.ref b96), .val (.int v187), .val (.int r190), .val (.int r192), .unset] [(.int r194)])) tg := by
    intro tg kt
    show Steps p.tables e below (T194.setTop (mkF m 273 #[.val (.int p1), .val (.int p2), .val (.int p3), .val (.int p4), .val (.int p5), .val (.int p6), .val (.int ((p1 &&& (255 : Int32)) % (7 : Int32))), .val (.int v3), .val (.int v7), .val (.int v11), .val (.int v15), .val (.int v19), .val (.int v23), .val (.int v27), .val (.ref b30), .val (.ref b39), .val (.ref b50), .val (.ref b96), .val (.int v187), .val (.int r190), .val (.int r192), .unset] [(.int r194)])) tg
    refine XS.istore X194.here hx rfl (hb hby at_273) rfl (l' := #[.val (.int p1), .val (.int p2), .val (.int p3), .val (.int p4), .val (.int p5), .val (.int p6), .val (.int ((p1 &&& (255 : Int32)) % (7 : Int32))), .val (.int v3), .val (.int v7), .val (.int v11), .val (.int v15), .val (.int v19), .val (.int v23), .val (.int v27), .val (.ref b30), .val (.ref b39), .val (.ref b50), .val (.ref b96), .val (.int v187), .val (.int r190), .val (.int r192), .val (.int r194)]) rfl ?_
    exact kt
  have bk1 : 0 ≤ (((p1 &&& (255 : Int32)) % (7 : Int32))).toInt ∧ (((p1 &&& (255 : Int32)) % (7 : Int32))).toInt ≤ 6 := own_k _
  have bk2 : 0 ≤ (v3).toInt ∧ (v3).toInt ≤ 6 := by
    rw [hv3]; split
    · exact own_k _
    · exact own_k _
  have hAB : r87 = r154 ↔ ((p1 &&& (255 : Int32)) % (7 : Int32)) = v3 := by
    constructor
    · intro q
      have f1 := own_kd bk1.1 bk1.2 O_LETTERS O_TEXT O_DIGITS O_DECIMAL O_DATE O_DATE_TIME O_LOGICAL
      have f2 := own_kd bk2.1 bk2.2 O_LETTERS O_TEXT O_DIGITS O_DECIMAL O_DATE O_DATE_TIME O_LOGICAL
      rw [← hr87] at f1
      rw [← hr154] at f2
      by_cases z : ((p1 &&& (255 : Int32)) % (7 : Int32)) = v3
      · exact z
      · exact absurd q (Fld.ne f1 f2 (fun y => z (Value.int.inj y)))
    · intro q; rw [hr87, hr154, q]
  have hex : r190 = v187 := by
    rw [hr190]
    subst hv187 hv185 hv183 hv181 hv179 hv27 hv23 hv19 hv15 hv11 hv7
    exact own_fin hAB
  have hba : r192 = v187 := by rw [hr192, own_sym, ← hr190]; exact hex
  have haa : ¬ (r194 = 0) := by rw [hr194, own_self]; decide
  have st197 : ∀ tg, Steps p.tables e below (T194.setTop (mkF m 279 #[.val (.int p1), .val (.int p2), .val (.int p3), .val (.int p4), .val (.int p5), .val (.int p6), .val (.int ((p1 &&& (255 : Int32)) % (7 : Int32))), .val (.int v3), .val (.int v7), .val (.int v11), .val (.int v15), .val (.int v19), .val (.int v23), .val (.int v27), .val (.ref b30), .val (.ref b39), .val (.ref b50), .val (.ref b96), .val (.int v187), .val (.int r190), .val (.int r192), .val (.int r194)] [(.int v187), (.int r190)])) tg → Steps p.tables e below (T194.setTop (mkF m 275 #[.val (.int p1), .val (.int p2), .val (.int p3), .val (.int p4), .val (.int p5), .val (.int p6), .val (.int ((p1 &&& (255 : Int32)) % (7 : Int32))), .val (.int v3), .val (.int v7), .val (.int v11), .val (.int v15), .val (.int v19), .val (.int v23), .val (.int v27), .val (.ref b30), .val (.ref b39), .val (.ref b50), .val (.ref b96), .val (.int v187), .val (.int r190), .val (.int r192), .val (.int r194)] [])) tg := by
    intro tg kt
    show Steps p.tables e below (T194.setTop (mkF m 275 #[.val (.int p1), .val (.int p2), .val (.int p3), .val (.int p4), .val (.int p5), .val (.int p6), .val (.int ((p1 &&& (255 : Int32)) % (7 : Int32))), .val (.int v3), .val (.int v7), .val (.int v11), .val (.int v15), .val (.int v19), .val (.int v23), .val (.int v27), .val (.ref b30), .val (.ref b39), .val (.ref b50), .val (.ref b96), .val (.int v187), .val (.int r190), .val (.int r192), .val (.int r194)] [])) tg
    refine XS.iload X194.here hx rfl (hb hby at_275) rfl ?_
    show Steps p.tables e below (T194.setTop (mkF m 277 #[.val (.int p1), .val (.int p2), .val (.int p3), .val (.int p4), .val (.int p5), .val (.int p6), .val (.int ((p1 &&& (255 : Int32)) % (7 : Int32))), .val (.int v3), .val (.int v7), .val (.int v11), .val (.int v15), .val (.int v19), .val (.int v23), .val (.int v27), .val (.ref b30), .val (.ref b39), .val (.ref b50), .val (.ref b96), .val (.int v187), .val (.int r190), .val (.int r192), .val (.int r194)] [(.int r190)])) tg
    refine XS.iload X194.here hx rfl (hb hby at_277) rfl ?_
    exact kt
  have hf196 : r190 = v187 := hex
  have st199 : ∀ tg, Steps p.tables e below (T194.setTop (mkF m 286 #[.val (.int p1), .val (.int p2), .val (.int p3), .val (.int p4), .val (.int p5), .val (.int p6), .val (.int ((p1 &&& (255 : Int32)) % (7 : Int32))), .val (.int v3), .val (.int v7), .val (.int v11), .val (.int v15), .val (.int v19), .val (.int v23), .val (.int v27), .val (.ref b30), .val (.ref b39), .val (.ref b50), .val (.ref b96), .val (.int v187), .val (.int r190), .val (.int r192), .val (.int r194)] [(.int v187), (.int r192)])) tg → Steps p.tables e below (T194.setTop (mkF m 279 #[.val (.int p1), .val (.int p2), .val (.int p3), .val (.int p4), .val (.int p5), .val (.int p6), .val (.int ((p1 &&& (255 : Int32)) % (7 : Int32))), .val (.int v3), .val (.int v7), .val (.int v11), .val (.int v15), .val (.int v19), .val (.int v23), .val (.int v27), .val (.ref b30), .val (.ref b39), .val (.ref b50), .val (.ref b96), .val (.int v187), .val (.int r190), .val (.int r192), .val (.int r194)] [(.int v187), (.int r190)])) tg := by
    intro tg kt
    show Steps p.tables e below (T194.setTop (mkF m 279 #[.val (.int p1), .val (.int p2), .val (.int p3), .val (.int p4), .val (.int p5), .val (.int p6), .val (.int ((p1 &&& (255 : Int32)) % (7 : Int32))), .val (.int v3), .val (.int v7), .val (.int v11), .val (.int v15), .val (.int v19), .val (.int v23), .val (.int v27), .val (.ref b30), .val (.ref b39), .val (.ref b50), .val (.ref b96), .val (.int v187), .val (.int r190), .val (.int r192), .val (.int r194)] [(.int v187), (.int r190)])) tg
    refine XS.icmpNo X194.here hx rfl (hb hby at_279) rfl (XT.ii_ne_f hf196) ?_
    show Steps p.tables e below (T194.setTop (mkF m 282 #[.val (.int p1), .val (.int p2), .val (.int p3), .val (.int p4), .val (.int p5), .val (.int p6), .val (.int ((p1 &&& (255 : Int32)) % (7 : Int32))), .val (.int v3), .val (.int v7), .val (.int v11), .val (.int v15), .val (.int v19), .val (.int v23), .val (.int v27), .val (.ref b30), .val (.ref b39), .val (.ref b50), .val (.ref b96), .val (.int v187), .val (.int r190), .val (.int r192), .val (.int r194)] [])) tg
    refine XS.iload X194.here hx rfl (hb hby at_282) rfl ?_
    show Steps p.tables e below (T194.setTop (mkF m 284 #[.val (.int p1), .val (.int p2), .val (.int p3), .val (.int p4), .val (.int p5), .val (.int p6), .val (.int ((p1 &&& (255 : Int32)) % (7 : Int32))), .val (.int v3), .val (.int v7), .val (.int v11), .val (.int v15), .val (.int v19), .val (.int v23), .val (.int v27), .val (.ref b30), .val (.ref b39), .val (.ref b50), .val (.ref b96), .val (.int v187), .val (.int r190), .val (.int r192), .val (.int r194)] [(.int r192)])) tg
    refine XS.iload X194.here hx rfl (hb hby at_284) rfl ?_
    exact kt
  have hf198 : r192 = v187 := hba
  have st201 : ∀ tg, Steps p.tables e below (T194.setTop (mkF m 291 #[.val (.int p1), .val (.int p2), .val (.int p3), .val (.int p4), .val (.int p5), .val (.int p6), .val (.int ((p1 &&& (255 : Int32)) % (7 : Int32))), .val (.int v3), .val (.int v7), .val (.int v11), .val (.int v15), .val (.int v19), .val (.int v23), .val (.int v27), .val (.ref b30), .val (.ref b39), .val (.ref b50), .val (.ref b96), .val (.int v187), .val (.int r190), .val (.int r192), .val (.int r194)] [(.int r194)])) tg → Steps p.tables e below (T194.setTop (mkF m 286 #[.val (.int p1), .val (.int p2), .val (.int p3), .val (.int p4), .val (.int p5), .val (.int p6), .val (.int ((p1 &&& (255 : Int32)) % (7 : Int32))), .val (.int v3), .val (.int v7), .val (.int v11), .val (.int v15), .val (.int v19), .val (.int v23), .val (.int v27), .val (.ref b30), .val (.ref b39), .val (.ref b50), .val (.ref b96), .val (.int v187), .val (.int r190), .val (.int r192), .val (.int r194)] [(.int v187), (.int r192)])) tg := by
    intro tg kt
    show Steps p.tables e below (T194.setTop (mkF m 286 #[.val (.int p1), .val (.int p2), .val (.int p3), .val (.int p4), .val (.int p5), .val (.int p6), .val (.int ((p1 &&& (255 : Int32)) % (7 : Int32))), .val (.int v3), .val (.int v7), .val (.int v11), .val (.int v15), .val (.int v19), .val (.int v23), .val (.int v27), .val (.ref b30), .val (.ref b39), .val (.ref b50), .val (.ref b96), .val (.int v187), .val (.int r190), .val (.int r192), .val (.int r194)] [(.int v187), (.int r192)])) tg
    refine XS.icmpNo X194.here hx rfl (hb hby at_286) rfl (XT.ii_ne_f hf198) ?_
    show Steps p.tables e below (T194.setTop (mkF m 289 #[.val (.int p1), .val (.int p2), .val (.int p3), .val (.int p4), .val (.int p5), .val (.int p6), .val (.int ((p1 &&& (255 : Int32)) % (7 : Int32))), .val (.int v3), .val (.int v7), .val (.int v11), .val (.int v15), .val (.int v19), .val (.int v23), .val (.int v27), .val (.ref b30), .val (.ref b39), .val (.ref b50), .val (.ref b96), .val (.int v187), .val (.int r190), .val (.int r192), .val (.int r194)] [])) tg
    refine XS.iload X194.here hx rfl (hb hby at_289) rfl ?_
    exact kt
  have hf200 : ¬ (r194 = 0) := haa
  have st202 : ∀ tg, Steps p.tables e below (T194.setTop (mkF m 299 #[.val (.int p1), .val (.int p2), .val (.int p3), .val (.int p4), .val (.int p5), .val (.int p6), .val (.int ((p1 &&& (255 : Int32)) % (7 : Int32))), .val (.int v3), .val (.int v7), .val (.int v11), .val (.int v15), .val (.int v19), .val (.int v23), .val (.int v27), .val (.ref b30), .val (.ref b39), .val (.ref b50), .val (.ref b96), .val (.int v187), .val (.int r190), .val (.int r192), .val (.int r194)] [(.int (1 : Int32))])) tg → Steps p.tables e below (T194.setTop (mkF m 291 #[.val (.int p1), .val (.int p2), .val (.int p3), .val (.int p4), .val (.int p5), .val (.int p6), .val (.int ((p1 &&& (255 : Int32)) % (7 : Int32))), .val (.int v3), .val (.int v7), .val (.int v11), .val (.int v15), .val (.int v19), .val (.int v23), .val (.int v27), .val (.ref b30), .val (.ref b39), .val (.ref b50), .val (.ref b96), .val (.int v187), .val (.int r190), .val (.int r192), .val (.int r194)] [(.int r194)])) tg := by
    intro tg kt
    show Steps p.tables e below (T194.setTop (mkF m 291 #[.val (.int p1), .val (.int p2), .val (.int p3), .val (.int p4), .val (.int p5), .val (.int p6), .val (.int ((p1 &&& (255 : Int32)) % (7 : Int32))), .val (.int v3), .val (.int v7), .val (.int v11), .val (.int v15), .val (.int v19), .val (.int v23), .val (.int v27), .val (.ref b30), .val (.ref b39), .val (.ref b50), .val (.ref b96), .val (.int v187), .val (.int r190), .val (.int r192), .val (.int r194)] [(.int r194)])) tg
    refine XS.ifNo X194.here hx rfl (hb hby at_291) rfl (XT.i0_eq_f hf200) ?_
    show Steps p.tables e below (T194.setTop (mkF m 294 #[.val (.int p1), .val (.int p2), .val (.int p3), .val (.int p4), .val (.int p5), .val (.int p6), .val (.int ((p1 &&& (255 : Int32)) % (7 : Int32))), .val (.int v3), .val (.int v7), .val (.int v11), .val (.int v15), .val (.int v19), .val (.int v23), .val (.int v27), .val (.ref b30), .val (.ref b39), .val (.ref b50), .val (.ref b96), .val (.int v187), .val (.int r190), .val (.int r192), .val (.int r194)] [])) tg
    refine XS.iconst X194.here hx rfl (hb hby at_294) ?_
    show Steps p.tables e below (T194.setTop (mkF m 295 #[.val (.int p1), .val (.int p2), .val (.int p3), .val (.int p4), .val (.int p5), .val (.int p6), .val (.int ((p1 &&& (255 : Int32)) % (7 : Int32))), .val (.int v3), .val (.int v7), .val (.int v11), .val (.int v15), .val (.int v19), .val (.int v23), .val (.int v27), .val (.ref b30), .val (.ref b39), .val (.ref b50), .val (.ref b96), .val (.int v187), .val (.int r190), .val (.int r192), .val (.int r194)] [(.int (1 : Int32))])) tg
    refine XS.goto X194.here hx rfl (pc0 := 295) (pc' := 299) rfl (hb hby at_295) (by decide) (by decide) ?_
    exact kt
  obtain ⟨fs, hr, hrun, hended, hW, hsame⟩ := X194.leave (v := some (.int (1 : Int32))) (fun h => by rw [Bd.returns] at h; cases h)
  refine ⟨_, _, pre0 _ ?_, hrun, hended, _, _, rfl, ?_, ⟨_, rfl⟩, hW, hsame.mono (by decide) (by decide)⟩
  · refine st2 _ ?_
    refine st4 _ ?_
    refine st6 _ ?_
    refine st8 _ ?_
    refine st10 _ ?_
    refine st12 _ ?_
    refine st14 _ ?_
    refine st16 _ ?_
    refine st18 _ ?_
    refine st20 _ ?_
    refine st22 _ ?_
    refine st24 _ ?_
    refine st26 _ ?_
    refine st28 _ ?_
    refine st29 _ ?_
    show Steps p.tables e below (s₁.setTop (mkF m 124 #[.val (.int p1), .val (.int p2), .val (.int p3), .val (.int p4), .val (.int p5), .val (.int p6), .val (.int ((p1 &&& (255 : Int32)) % (7 : Int32))), .val (.int v3), .val (.int v7), .val (.int v11), .val (.int v15), .val (.int v19), .val (.int v23), .val (.int v27), .unset, .unset, .unset, .unset, .unset, .unset, .unset, .unset] [(.int (1 : Int32))])) _
    refine st30 _ ?_
    refine st33 _ ?_
    show Steps p.tables e below (T30.setTop (mkF m 138 #[.val (.int p1), .val (.int p2), .val (.int p3), .val (.int p4), .val (.int p5), .val (.int p6), .val (.int ((p1 &&& (255 : Int32)) % (7 : Int32))), .val (.int v3), .val (.int v7), .val (.int v11), .val (.int v15), .val (.int v19), .val (.int v23), .val (.int v27), .unset, .unset, .unset, .unset, .unset, .unset, .unset, .unset] [(.int ((((p6.toUInt32 >>> ((8 : Int32) &&& 31).toUInt32).toInt32) &&& (255 : Int32)).toUInt32.toUInt16.toUInt32.toInt32)), (.int (0 : Int32)), (.ref b30), (.ref b30)])) _
    refine st35 _ ?_
    refine st38 _ ?_
    show Steps p.tables e below (T35.setTop (mkF m 142 #[.val (.int p1), .val (.int p2), .val (.int p3), .val (.int p4), .val (.int p5), .val (.int p6), .val (.int ((p1 &&& (255 : Int32)) % (7 : Int32))), .val (.int v3), .val (.int v7), .val (.int v11), .val (.int v15), .val (.int v19), .val (.int v23), .val (.int v27), .val (.ref b30), .unset, .unset, .unset, .unset, .unset, .unset, .unset] [(.int (1 : Int32))])) _
    refine st39 _ ?_
    refine st43 _ ?_
    show Steps p.tables e below (T39.setTop (mkF m 156 #[.val (.int p1), .val (.int p2), .val (.int p3), .val (.int p4), .val (.int p5), .val (.int p6), .val (.int ((p1 &&& (255 : Int32)) % (7 : Int32))), .val (.int v3), .val (.int v7), .val (.int v11), .val (.int v15), .val (.int v19), .val (.int v23), .val (.int v27), .val (.ref b30), .unset, .unset, .unset, .unset, .unset, .unset, .unset] [(.int ((((p6.toUInt32 >>> ((16 : Int32) &&& 31).toUInt32).toInt32) &&& (255 : Int32)).toUInt32.toUInt16.toUInt32.toInt32)), (.int (0 : Int32)), (.ref b39), (.ref b39)])) _
    refine st45 _ ?_
    refine st49 _ ?_
    show Steps p.tables e below (T45.setTop (mkF m 159 #[.val (.int p1), .val (.int p2), .val (.int p3), .val (.int p4), .val (.int p5), .val (.int p6), .val (.int ((p1 &&& (255 : Int32)) % (7 : Int32))), .val (.int v3), .val (.int v7), .val (.int v11), .val (.int v15), .val (.int v19), .val (.int v23), .val (.int v27), .val (.ref b30), .val (.ref b39), .unset, .unset, .unset, .unset, .unset, .unset] [])) _
    refine st50 _ ?_
    refine st60 _ ?_
    show Steps p.tables e below (T50.setTop (mkF m 163 #[.val (.int p1), .val (.int p2), .val (.int p3), .val (.int p4), .val (.int p5), .val (.int p6), .val (.int ((p1 &&& (255 : Int32)) % (7 : Int32))), .val (.int v3), .val (.int v7), .val (.int v11), .val (.int v15), .val (.int v19), .val (.int v23), .val (.int v27), .val (.ref b30), .val (.ref b39), .unset, .unset, .unset, .unset, .unset, .unset] [(.ref b50), (.ref b50)])) _
    refine st61 _ ?_
    refine st74 _ ?_
    show Steps p.tables e below (T61.setTop (mkF m 169 #[.val (.int p1), .val (.int p2), .val (.int p3), .val (.int p4), .val (.int p5), .val (.int p6), .val (.int ((p1 &&& (255 : Int32)) % (7 : Int32))), .val (.int v3), .val (.int v7), .val (.int v11), .val (.int v15), .val (.int v19), .val (.int v23), .val (.int v27), .val (.ref b30), .val (.ref b39), .unset, .unset, .unset, .unset, .unset, .unset] [(.ref b30), (.ref b61), (.ref b61), (.ref b50), (.ref b50)])) _
    refine st75.trans ?_
    refine st86 _ ?_
    show Steps p.tables e below (T75.setTop (mkF m 174 #[.val (.int p1), .val (.int p2), .val (.int p3), .val (.int p4), .val (.int p5), .val (.int p6), .val (.int ((p1 &&& (255 : Int32)) % (7 : Int32))), .val (.int v3), .val (.int v7), .val (.int v11), .val (.int v15), .val (.int v19), .val (.int v23), .val (.int v27), .val (.ref b30), .val (.ref b39), .unset, .unset, .unset, .unset, .unset, .unset] [(.int ((p1 &&& (255 : Int32)) % (7 : Int32))), (.ref b61), (.ref b50), (.ref b50)])) _
    refine st87 _ ?_
    refine st88 _ ?_
    show Steps p.tables e below (T87.setTop (mkF m 180 #[.val (.int p1), .val (.int p2), .val (.int p3), .val (.int p4), .val (.int p5), .val (.int p6), .val (.int ((p1 &&& (255 : Int32)) % (7 : Int32))), .val (.int v3), .val (.int v7), .val (.int v11), .val (.int v15), .val (.int v19), .val (.int v23), .val (.int v27), .val (.ref b30), .val (.ref b39), .unset, .unset, .unset, .unset, .unset, .unset] [(.int p4), (.int p3), (.int p2), (.ref r87), (.ref b61), (.ref b50), (.ref b50)])) _
    refine st89.trans ?_
    refine st95 _ ?_
    show Steps p.tables e below (T89.setTop (mkF m 185 #[.val (.int p1), .val (.int p2), .val (.int p3), .val (.int p4), .val (.int p5), .val (.int p6), .val (.int ((p1 &&& (255 : Int32)) % (7 : Int32))), .val (.int v3), .val (.int v7), .val (.int v11), .val (.int v15), .val (.int v19), .val (.int v23), .val (.int v27), .val (.ref b30), .val (.ref b39), .val (.ref b50), .unset, .unset, .unset, .unset, .unset] [])) _
    refine st96 _ ?_
    refine st113 _ ?_
    show Steps p.tables e below (T96.setTop (mkF m 189 #[.val (.int p1), .val (.int p2), .val (.int p3), .val (.int p4), .val (.int p5), .val (.int p6), .val (.int ((p1 &&& (255 : Int32)) % (7 : Int32))), .val (.int v3), .val (.int v7), .val (.int v11), .val (.int v15), .val (.int v19), .val (.int v23), .val (.int v27), .val (.ref b30), .val (.ref b39), .val (.ref b50), .unset, .unset, .unset, .unset, .unset] [(.ref b96), (.ref b96)])) _
    refine st114 _ ?_
    refine st134 _ ?_
    show Steps p.tables e below (T114.setTop (mkF m 195 #[.val (.int p1), .val (.int p2), .val (.int p3), .val (.int p4), .val (.int p5), .val (.int p6), .val (.int ((p1 &&& (255 : Int32)) % (7 : Int32))), .val (.int v3), .val (.int v7), .val (.int v11), .val (.int v15), .val (.int v19), .val (.int v23), .val (.int v27), .val (.ref b30), .val (.ref b39), .val (.ref b50), .unset, .unset, .unset, .unset, .unset] [(.ref b39), (.ref b114), (.ref b114), (.ref b96), (.ref b96)])) _
    refine st135.trans ?_
    refine st153 _ ?_
    show Steps p.tables e below (T135.setTop (mkF m 200 #[.val (.int p1), .val (.int p2), .val (.int p3), .val (.int p4), .val (.int p5), .val (.int p6), .val (.int ((p1 &&& (255 : Int32)) % (7 : Int32))), .val (.int v3), .val (.int v7), .val (.int v11), .val (.int v15), .val (.int v19), .val (.int v23), .val (.int v27), .val (.ref b30), .val (.ref b39), .val (.ref b50), .unset, .unset, .unset, .unset, .unset] [(.int v3), (.ref b114), (.ref b96), (.ref b96)])) _
    refine st154 _ ?_
    refine st155 _ ?_
    show Steps p.tables e below (T154.setTop (mkF m 209 #[.val (.int p1), .val (.int p2), .val (.int p3), .val (.int p4), .val (.int p5), .val (.int p6), .val (.int ((p1 &&& (255 : Int32)) % (7 : Int32))), .val (.int v3), .val (.int v7), .val (.int v11), .val (.int v15), .val (.int v19), .val (.int v23), .val (.int v27), .val (.ref b30), .val (.ref b39), .val (.ref b50), .unset, .unset, .unset, .unset, .unset] [(.int v27), (.int v23), (.int v19), (.ref r154), (.ref b114), (.ref b96), (.ref b96)])) _
    refine st156.trans ?_
    refine st170 _ ?_
    refine st188 _ ?_
    refine st189 _ ?_
    show Steps p.tables e below (T156.setTop (mkF m 252 #[.val (.int p1), .val (.int p2), .val (.int p3), .val (.int p4), .val (.int p5), .val (.int p6), .val (.int ((p1 &&& (255 : Int32)) % (7 : Int32))), .val (.int v3), .val (.int v7), .val (.int v11), .val (.int v15), .val (.int v19), .val (.int v23), .val (.int v27), .val (.ref b30), .val (.ref b39), .val (.ref b50), .val (.ref b96), .val (.int v187), .unset, .unset, .unset] [(.ref b96), (.ref b50)])) _
    refine st190.trans ?_
    refine st191 _ ?_
    show Steps p.tables e below (T190.setTop (mkF m 261 #[.val (.int p1), .val (.int p2), .val (.int p3), .val (.int p4), .val (.int p5), .val (.int p6), .val (.int ((p1 &&& (255 : Int32)) % (7 : Int32))), .val (.int v3), .val (.int v7), .val (.int v11), .val (.int v15), .val (.int v19), .val (.int v23), .val (.int v27), .val (.ref b30), .val (.ref b39), .val (.ref b50), .val (.ref b96), .val (.int v187), .val (.int r190), .unset, .unset] [(.ref b50), (.ref b96)])) _
    refine st192.trans ?_
    refine st193 _ ?_
    show Steps p.tables e below (T192.setTop (mkF m 270 #[.val (.int p1), .val (.int p2), .val (.int p3), .val (.int p4), .val (.int p5), .val (.int p6), .val (.int ((p1 &&& (255 : Int32)) % (7 : Int32))), .val (.int v3), .val (.int v7), .val (.int v11), .val (.int v15), .val (.int v19), .val (.int v23), .val (.int v27), .val (.ref b30), .val (.ref b39), .val (.ref b50), .val (.ref b96), .val (.int v187), .val (.int r190), .val (.int r192), .unset] [(.ref b50), (.ref b50)])) _
    refine st194.trans ?_
    refine st195 _ ?_
    refine st197 _ ?_
    refine st199 _ ?_
    refine st201 _ ?_
    refine st202 _ ?_
    show Steps p.tables e below (T194.setTop (mkF m 299 #[.val (.int p1), .val (.int p2), .val (.int p3), .val (.int p4), .val (.int p5), .val (.int p6), .val (.int ((p1 &&& (255 : Int32)) % (7 : Int32))), .val (.int v3), .val (.int v7), .val (.int v11), .val (.int v15), .val (.int v19), .val (.int v23), .val (.int v27), .val (.ref b30), .val (.ref b39), .val (.ref b50), .val (.ref b96), .val (.int v187), .val (.int r190), .val (.int r192), .val (.int r194)] [(.int (1 : Int32))])) _
    exact retN X194 hx (t := .boolean) Bd.returns (by simp) (hb hby at_299) hr
  · show Q0 Z p1 p2 p3 p4 p5 p6 w0 w1 w2 w3 w4 w5 w6 wc h0 n0 _ T194.heap _
    rw [e194]
    exact ⟨rfl, N194⟩
set_option maxRecDepth 65536 in
set_option maxHeartbeats 40000000 in
theorem comes_1 {Post : Tables → Env → Array Value → State → Outcome → State → Prop} (hpost : ∀ tb e args s v u, (limb_1_1.after args s (.returned v) u = true ∧ limb_1_2.after args s (.returned v) u = true ∧ True) → FrameEnd s (.returned v) u (Jvm.fieldLocs frame_1_writes args s ++ Jvm.arrayLocs frame_1_arrays args s ++ Jvm.staticLocs frame_1_statics s) 24 128 → Post tb e args s (.returned v) u) :
    ArmFor flags0 classFile x code maxLocals ret World_1 tables_1 room_1 Calls_1 rest_1 Pre_1 Post := by
  intro l hfl _ _ p e ha hc hk s m args below hf hA hF happ hP
  obtain ⟨hcalls, hrest, hpre⟩ := hP
  obtain ⟨-, -, -, hnamed, -, -, -, hat⟩ := (Spec.applies_iff hf).mp happ
  obtain ⟨hg, hn⟩ := and_e (Cond.before_iff.mp (show (Jvm.Cond.and given_1 narrow_1).before args s = true from hpre))
  obtain ⟨k0, j0⟩ := and_e hg
  obtain ⟨k1, j1⟩ := and_e j0
  obtain ⟨k2, j2⟩ := and_e j1
  obtain ⟨k3, j3⟩ := and_e j2
  obtain ⟨k4, j4⟩ := and_e j3
  obtain ⟨k5, j5⟩ := and_e j4
  obtain ⟨w0, w1, w2, w3, w4, w5, rfl⟩ : ∃ w0 w1 w2 w3 w4 w5 : Value, args = #[w0, w1, w2, w3, w4, w5] := by
    have hs : args.size = 6 := by simpa [Cond.value, given_1] using k0
    obtain ⟨L⟩ := args
    match L, hs with
    | [w0, w1, w2, w3, w4, w5], _ => exact ⟨w0, w1, w2, w3, w4, w5, rfl⟩
  have hw := fun d (hd : d ∈ tables_1) => atoms_spec (ws := Jvm.Cond.code x code maxLocals ret :: tables_1) hat d (List.mem_cons_of_mem _ hd)
  have hfit : Fit s := fun {y c} hc i hi => by
    obtain ⟨ha, rfl⟩ := Array.getElem?_eq_some_iff.mp hc
    have q := List.all_eq_true.mp ((Array.all_eq_true_iff_forall_mem.mp hF) _ (Array.getElem_mem ha)) i (List.mem_range.mpr hi)
    simpa [Array.getElem?_eq_getElem hi] using q
  obtain ⟨hsets, hown0⟩ := atoms_of _ (rest_1_c_eq ▸ (show rest_1_c.before _ s = true from hrest))
  have hr0 := Cond.before_iff.mp hown0
  obtain ⟨i0, ei0⟩ := is_v k1
  obtain rfl : w0 = (.int i0) := Option.some.inj ei0
  obtain ⟨i1, ei1⟩ := is_v k2
  obtain rfl : w1 = (.int i1) := Option.some.inj ei1
  obtain ⟨i2, ei2⟩ := is_v k3
  obtain rfl : w2 = (.int i2) := Option.some.inj ei2
  obtain ⟨i3, ei3⟩ := is_v k4
  obtain rfl : w3 = (.int i3) := Option.some.inj ei3
  obtain ⟨i4, ei4⟩ := is_v k5
  obtain rfl : w4 = (.int i4) := Option.some.inj ei4
  obtain ⟨i5, ei5⟩ := is_v j5
  obtain rfl : w5 = (.int i5) := Option.some.inj ei5
  obtain ⟨c0, d0⟩ := and_e hn
  obtain ⟨c1, d1⟩ := and_e d0
  obtain ⟨c2, d2⟩ := and_e d1
  obtain ⟨c3, d3⟩ := and_e d2
  obtain ⟨c4, d4⟩ := and_e d3
  obtain ⟨c5, d5⟩ := and_e d4
  obtain ⟨c6, d6⟩ := and_e d5
  obtain ⟨c7, d7⟩ := and_e d6
  obtain ⟨c8, d8⟩ := and_e d7
  obtain ⟨c9, d9⟩ := and_e d8
  obtain ⟨c10, d10⟩ := and_e d9
  obtain ⟨c11, d11⟩ := and_e d10
  obtain ⟨c12, d12⟩ := and_e d11
  obtain ⟨w0, ev0⟩ := exa_v c0
  have S_LETTERS := Sta.start ev0 (Or.inr ⟨(hw _ (List.mem_of_getElem? (i := 38) rfl)), (hw _ (List.mem_of_getElem? (i := 39) rfl))⟩)
  have O_LETTERS := Fld.start (own_ord ev0 c4)
  obtain ⟨w1, ev1⟩ := exa_v c11
  have S_TEXT := Sta.start ev1 (Or.inr ⟨(hw _ (List.mem_of_getElem? (i := 38) rfl)), (hw _ (List.mem_of_getElem? (i := 75) rfl))⟩)
  have O_TEXT := Fld.start (own_ord ev1 c12)
  obtain ⟨w2, ev2⟩ := exa_v c2
  have S_DIGITS := Sta.start ev2 (Or.inr ⟨(hw _ (List.mem_of_getElem? (i := 38) rfl)), (hw _ (List.mem_of_getElem? (i := 67) rfl))⟩)
  have O_DIGITS := Fld.start (own_ord ev2 c3)
  obtain ⟨w3, ev3⟩ := exa_v c6
  have S_DECIMAL := Sta.start ev3 (Or.inr ⟨(hw _ (List.mem_of_getElem? (i := 38) rfl)), (hw _ (List.mem_of_getElem? (i := 69) rfl))⟩)
  have O_DECIMAL := Fld.start (own_ord ev3 d12)
  obtain ⟨w4, ev4⟩ := exa_v c1
  have S_DATE := Sta.start ev4 (Or.inr ⟨(hw _ (List.mem_of_getElem? (i := 38) rfl)), (hw _ (List.mem_of_getElem? (i := 65) rfl))⟩)
  have O_DATE := Fld.start (own_ord ev4 c5)
  obtain ⟨w5, ev5⟩ := exa_v c9
  have S_DATE_TIME := Sta.start ev5 (Or.inr ⟨(hw _ (List.mem_of_getElem? (i := 38) rfl)), (hw _ (List.mem_of_getElem? (i := 73) rfl))⟩)
  have O_DATE_TIME := Fld.start (own_ord ev5 c10)
  obtain ⟨w6, ev6⟩ := exa_v c7
  have S_LOGICAL := Sta.start ev6 (Or.inr ⟨(hw _ (List.mem_of_getElem? (i := 38) rfl)), (hw _ (List.mem_of_getElem? (i := 71) rfl))⟩)
  have O_LOGICAL := Fld.start (own_ord ev6 c8)
  obtain ⟨wc, evc⟩ := is_v (Cond.before_iff.mp (hsets _ (List.mem_of_getElem? (i := 1) rfl)))
  have S_c := Sta.start evc (Or.inl (hsets _ (List.mem_of_getElem? (i := 0) rfl)))
  have hwc : ¬ (wc = 0) := own_nz evc (Cond.before_iff.mp (hsets _ (List.mem_of_getElem? (i := 2) rfl)))
  obtain ⟨n, o, h1, h2, h3, _, L, rfl, ⟨rfl, N⟩, hq⟩ := rm0 l s _ hw tables_1 i0 i1 i2 i3 i4 i5 w0 w1 w2 w3 w4 w5 w6 wc s.heap s.heap.size (Nat.le_refl _) (Old.start s) S_LETTERS S_TEXT S_DIGITS S_DECIMAL S_DATE S_DATE_TIME S_LOGICAL S_c hwc O_LETTERS O_TEXT O_DIGITS O_DECIMAL O_DATE O_DATE_TIME O_LOGICAL p e ha hc hk s m _ below hf ((Spec.applies_iff_loose hf).mp happ).1 ⟨rfl, State.Warmed39.refl s, rfl⟩ trivial
  refine ⟨n, _, h1, h2, h3, hpost _ _ _ _ _ _ ⟨Cond.after_iff.mpr rfl, Cond.after_iff.mpr (eq_i res_at (Term.int_eval (1)) rfl), trivial⟩ ⟨hq.1, hq.2.1, (hq.2.2.sift fun y hy => Or.inr (N y hy)).mono (by decide) (by decide)⟩⟩
theorem main_1_1 : Claimed_1_1 := comes_1 fun _ _ _ _ _ _ h hF => ⟨h.1, hF⟩
theorem main_1_2 : Claimed_1_2 := comes_1 fun _ _ _ _ _ _ h hF => ⟨h.2.1, hF⟩
end Jvm.Pilot.@@N@@
namespace Jvm.Pilot.@@N@@
open Jvm Jvm.ClassFile Sem Op Lib Jvm.Free Jvm.Stand Jvm.Pilot.@@N@@.Jvm.D
/-! MADE BY PROGRAM (witnessworld.py) out of the Statement's table words and the real class files: 23 classes; the members and pool entries that the words name. The judged class is class 1, her method 2. -/
namespace start1
open Jvm.ClassFile
def u (s : String) : CpInfo := .utf8 (stringToUtf16 s)
/-- a pool by its gaps: so many unusable entries, then the entry; so many at the end -/
def gap : Nat → List CpInfo → List CpInfo
  | 0, r => r
  | n + 1, r => .unusable :: gap n r
def poolList (es : List (Nat × CpInfo)) (last : Nat) : List CpInfo := es.foldr (fun e r => gap e.1 (e.2 :: r)) (gap last [])
def pool (es : List (Nat × CpInfo)) (last : Nat) : Array CpInfo := ⟨poolList es last⟩
def fileOf (pool : Array CpInfo) (this : Nat) (attrs : Array Attribute := #[]) (ms : Array MethodInfo := #[]) (fl : Nat := 33) (sup : Nat := 0) (ifs : Array Nat := #[]) (fds : Array FieldInfo := #[]) : ClassFile where
  minorVersion := 0
  majorVersion := 65
  constantPool := pool
  accessFlags := fl
  thisClass := this
  superClass := sup
  interfaces := ifs
  fields := fds
  methods := ms
  attributes := attrs
def plain (name : String) (sup : Option ClassId) : Class where
  name := name
  kind := .ordinary
  loader := none
  accessFlags := 33
  super := sup
  interfaces := #[]
  cf := none
  fields := #[]
  methods := #[]
  instanceTypes := #[]
  staticTypes := #[]
  resolved := #[]
  callSites := []
  init := .initialized
  statics := none
  mirror := none

def pool0 : Array CpInfo := pool [(5, u "<init>"), (0, u "()V"), (1, .class_ 10), (1, u "java/lang/Object")] 113

def k0c0 : Code := { maxStack := 0, maxLocals := 1, code := object_method_1_code, exceptionTable := #[], attributes := #[] }
def k0m0 : Method := { name := "<init>", desc := "()V", sig := { parameters := [], returnType := none }, accessFlags := 1, code := some k0c0 }
/-- java/lang/Object -/
def k0 : Class := { plain "java/lang/Object" none with
  accessFlags := 33
  interfaces := #[]
  cf := some (fileOf pool0 8 #[] #[{ accessFlags := 1, nameIndex := 5, descriptorIndex := 6, attributes := #[] }] 33 0 #[] #[])
  fields := #[]
  methods := #[k0m0]
  instanceTypes := #[]
  staticTypes := #[]
  resolved := Array.replicate 124 none
  statics := none }

def pool1 : Array CpInfo := pool [(2, .class_ 4), (1, u "java/lang/Object"), (0, u "<init>"), (0, u "()V"), (0, .fieldref 8 9), (0, .class_ 10), (0, .nameAndType 11 12), (0, u "com/example/bingli/bingli/conformance/DataElementFormat$Kind"), (0, u "LETTERS"), (0, u "Lcom/example/bingli/bingli/conformance/DataElementFormat$Kind;"), (0, .fieldref 8 14), (0, .nameAndType 15 12), (0, u "TEXT"), (0, .fieldref 8 17), (0, .nameAndType 18 12), (0, u "DIGITS"), (0, .fieldref 8 20), (0, .nameAndType 21 12), (0, u "DECIMAL"), (0, .fieldref 8 23), (0, .nameAndType 24 12), (0, u "DATE"), (0, .fieldref 8 26), (0, .nameAndType 27 12), (0, u "DATE_TIME"), (0, .fieldref 8 29), (0, .nameAndType 30 12), (0, u "LOGICAL"), (0, .class_ 32), (0, u "com/example/bingli/bingli/conformance/DataElementFormat"), (0, .class_ 34), (0, u "java/lang/String"), (0, .methodref 33 36), (0, .nameAndType 5 37), (0, u "([C)V"), (0, .methodref 39 40), (0, .class_ 41), (0, .nameAndType 42 43), (0, u "com/example/bingli/bingli/conformance/DataElementFormatSameAsPinLaw"), (0, u "kind"), (0, u "(I)Lcom/example/bingli/bingli/conformance/DataElementFormat$Kind;"), (0, .methodref 31 45), (0, .nameAndType 5 46), (0, u "(Ljava/lang/String;Lcom/example/bingli/bingli/conformance/DataElementFormat$Kind;III)V"), (0, .methodref 31 48), (0, .nameAndType 49 50), (0, u "sameAs"), (0, u "(Lcom/example/bingli/bingli/conformance/DataElementFormat;)Z"), (3, u "law"), (0, u "(IIIIII)Z")] 6

def k1m0 : Method := { name := "<init>", desc := "()V", sig := { parameters := [], returnType := none }, accessFlags := 2, code := none }
def k1c1 : Code := { maxStack := 2, maxLocals := 1, code := method_2_code, exceptionTable := #[], attributes := #[] }
def k1m1 : Method := { name := "kind", desc := "(I)Lcom/example/bingli/bingli/conformance/DataElementFormat$Kind;", sig := { parameters := [.int], returnType := some (.object "com/example/bingli/bingli/conformance/DataElementFormat$Kind") }, accessFlags := 10, code := some k1c1 }
def k1c2 : Code := { maxStack := 7, maxLocals := 22, code := code, exceptionTable := #[], attributes := #[] }
def k1m2 : Method := { name := "law", desc := "(IIIIII)Z", sig := { parameters := [.int, .int, .int, .int, .int, .int], returnType := some .boolean }, accessFlags := 9, code := some k1c2 }
/-- com/example/bingli/bingli/conformance/DataElementFormatSameAsPinLaw -/
def k1 : Class := { plain "com/example/bingli/bingli/conformance/DataElementFormatSameAsPinLaw" (some 0) with
  accessFlags := 49
  interfaces := #[]
  cf := some (fileOf pool1 39 #[] #[{ accessFlags := 2, nameIndex := 5, descriptorIndex := 6, attributes := #[] }, { accessFlags := 10, nameIndex := 42, descriptorIndex := 43, attributes := #[] }, { accessFlags := 9, nameIndex := 54, descriptorIndex := 55, attributes := #[] }] 49 2 #[] #[])
  fields := #[]
  methods := #[k1m0, k1m1, k1m2]
  instanceTypes := #[]
  staticTypes := #[]
  resolved := Array.replicate 62 none
  statics := none }

def pool2 : Array CpInfo := pool [(1, .methodref 2 3), (0, .class_ 4), (0, .nameAndType 5 6), (0, u "java/lang/Object"), (0, u "<init>"), (0, u "()V"), (0, .class_ 8), (0, u "java/lang/Record")] 13

def k2c0 : Code := { maxStack := 1, maxLocals := 1, code := jdk_30_method_1_code, exceptionTable := #[], attributes := #[] }
def k2m0 : Method := { name := "<init>", desc := "()V", sig := { parameters := [], returnType := none }, accessFlags := 4, code := some k2c0 }
/-- java/lang/Record -/
def k2 : Class := { plain "java/lang/Record" (some 0) with
  accessFlags := 1057
  interfaces := #[]
  cf := some (fileOf pool2 7 #[] #[{ accessFlags := 4, nameIndex := 5, descriptorIndex := 6, attributes := #[] }] 1057 2 #[] #[])
  fields := #[]
  methods := #[k2m0]
  instanceTypes := #[]
  staticTypes := #[]
  resolved := Array.replicate 22 none
  statics := none }

def pool3 : Array CpInfo := pool [(1, .methodref 2 3), (0, .class_ 4), (0, .nameAndType 5 6), (0, u "java/lang/Record"), (0, u "<init>"), (0, u "()V"), (0, .fieldref 8 9), (0, .class_ 10), (0, .nameAndType 11 12), (0, u "com/example/bingli/bingli/conformance/DataElementFormat"), (0, u "printed"), (0, u "Ljava/lang/String;"), (0, .fieldref 8 14), (0, .nameAndType 15 16), (0, u "kind"), (0, u "Lcom/example/bingli/bingli/conformance/DataElementFormat$Kind;"), (0, .fieldref 8 18), (0, .nameAndType 19 20), (0, u "minimum"), (0, u "I"), (0, .fieldref 8 22), (0, .nameAndType 23 20), (0, u "maximum"), (0, .fieldref 8 25), (0, .nameAndType 26 20), (0, u "scale"), (19, .class_ 48), (1, u "com/example/bingli/bingli/conformance/DataElementFormat$Kind"), (3, u "(Ljava/lang/String;Lcom/example/bingli/bingli/conformance/DataElementFormat$Kind;III)V"), (158, u "LENGTH_DIGITS"), (2, u "FORMATS"), (2, u "DATE_LENGTH"), (1, u "DATE_TIME_LENGTH"), (1, u "OFFSET_LENGTH"), (6, u "sameAs"), (0, u "(Lcom/example/bingli/bingli/conformance/DataElementFormat;)Z")] 41

def k3c0 : Code := { maxStack := 2, maxLocals := 6, code := prog_82_method_1_code, exceptionTable := #[], attributes := #[] }
def k3m0 : Method := { name := "<init>", desc := "(Ljava/lang/String;Lcom/example/bingli/bingli/conformance/DataElementFormat$Kind;III)V", sig := { parameters := [(.object "java/lang/String"), (.object "com/example/bingli/bingli/conformance/DataElementFormat$Kind"), .int, .int, .int], returnType := none }, accessFlags := 0, code := some k3c0 }
def k3c1 : Code := { maxStack := 2, maxLocals := 2, code := prog_82_method_4_code, exceptionTable := #[], attributes := #[] }
def k3m1 : Method := { name := "sameAs", desc := "(Lcom/example/bingli/bingli/conformance/DataElementFormat;)Z", sig := { parameters := [(.object "com/example/bingli/bingli/conformance/DataElementFormat")], returnType := some .boolean }, accessFlags := 0, code := some k3c1 }
/-- com/example/bingli/bingli/conformance/DataElementFormat -/
def k3 : Class := { plain "com/example/bingli/bingli/conformance/DataElementFormat" (some 2) with
  accessFlags := 48
  interfaces := #[]
  cf := some (fileOf pool3 8 #[.nestMembers #[46]] #[{ accessFlags := 0, nameIndex := 5, descriptorIndex := 52, attributes := #[] }, { accessFlags := 0, nameIndex := 228, descriptorIndex := 229, attributes := #[] }] 48 2 #[] #[{ accessFlags := 18, nameIndex := 11, descriptorIndex := 12, attributes := #[] }, { accessFlags := 18, nameIndex := 15, descriptorIndex := 16, attributes := #[] }, { accessFlags := 18, nameIndex := 19, descriptorIndex := 20, attributes := #[] }, { accessFlags := 18, nameIndex := 23, descriptorIndex := 20, attributes := #[] }, { accessFlags := 18, nameIndex := 26, descriptorIndex := 20, attributes := #[] }, { accessFlags := 26, nameIndex := 211, descriptorIndex := 20, attributes := #[] }, { accessFlags := 26, nameIndex := 214, descriptorIndex := 12, attributes := #[] }, { accessFlags := 26, nameIndex := 217, descriptorIndex := 20, attributes := #[] }, { accessFlags := 26, nameIndex := 219, descriptorIndex := 20, attributes := #[] }, { accessFlags := 26, nameIndex := 221, descriptorIndex := 20, attributes := #[] }])
  fields := #[{ name := "printed", type := (.object "java/lang/String"), accessFlags := 18, slot := 0, constantValue := 0 }, { name := "kind", type := (.object "com/example/bingli/bingli/conformance/DataElementFormat$Kind"), accessFlags := 18, slot := 1, constantValue := 0 }, { name := "minimum", type := .int, accessFlags := 18, slot := 2, constantValue := 0 }, { name := "maximum", type := .int, accessFlags := 18, slot := 3, constantValue := 0 }, { name := "scale", type := .int, accessFlags := 18, slot := 4, constantValue := 0 }, { name := "LENGTH_DIGITS", type := .int, accessFlags := 26, slot := 0, constantValue := 0 }, { name := "FORMATS", type := (.object "java/lang/String"), accessFlags := 26, slot := 1, constantValue := 0 }, { name := "DATE_LENGTH", type := .int, accessFlags := 26, slot := 2, constantValue := 0 }, { name := "DATE_TIME_LENGTH", type := .int, accessFlags := 26, slot := 3, constantValue := 0 }, { name := "OFFSET_LENGTH", type := .int, accessFlags := 26, slot := 4, constantValue := 0 }]
  methods := #[k3m0, k3m1]
  instanceTypes := #[(.object "java/lang/String"), (.object "com/example/bingli/bingli/conformance/DataElementFormat$Kind"), .int, .int, .int]
  staticTypes := #[.int, (.object "java/lang/String"), .int, .int, .int]
  resolved := Array.replicate 271 none
  statics := none }

def pool4 : Array CpInfo := pool [(1, .class_ 2), (0, u "java/io/Serializable"), (0, .class_ 4), (0, u "java/lang/Object")] 2

/-- java/io/Serializable -/
def k4 : Class := { plain "java/io/Serializable" (some 0) with
  accessFlags := 1537
  interfaces := #[]
  cf := some (fileOf pool4 1 #[] #[] 1537 3 #[] #[])
  fields := #[]
  methods := #[]
  instanceTypes := #[]
  staticTypes := #[]
  resolved := Array.replicate 7 none
  statics := none }

def pool5 : Array CpInfo := pool [(1, .class_ 2), (0, u "java/lang/Comparable"), (0, .class_ 4), (0, u "java/lang/Object")] 7

/-- java/lang/Comparable -/
def k5 : Class := { plain "java/lang/Comparable" (some 0) with
  accessFlags := 1537
  interfaces := #[]
  cf := some (fileOf pool5 1 #[] #[] 1537 3 #[] #[])
  fields := #[]
  methods := #[]
  instanceTypes := #[]
  staticTypes := #[]
  resolved := Array.replicate 12 none
  statics := none }

def pool6 : Array CpInfo := pool [(2, .class_ 4), (1, u "java/lang/CharSequence"), (42, .class_ 48), (0, u "java/lang/CharSequence$1CodePointIterator"), (10, .class_ 60), (0, u "java/lang/CharSequence$1CharIterator"), (5, .class_ 67), (0, u "java/lang/Object")] 63

/-- java/lang/CharSequence -/
def k6 : Class := { plain "java/lang/CharSequence" (some 0) with
  accessFlags := 1537
  interfaces := #[]
  cf := some (fileOf pool6 2 #[.nestMembers #[47, 59]] #[] 1537 66 #[] #[])
  fields := #[]
  methods := #[]
  instanceTypes := #[]
  staticTypes := #[]
  resolved := Array.replicate 131 none
  statics := none }

def pool7 : Array CpInfo := pool [(1, .class_ 2), (0, u "java/lang/constant/Constable"), (0, .class_ 4), (0, u "java/lang/Object")] 6

/-- java/lang/constant/Constable -/
def k7 : Class := { plain "java/lang/constant/Constable" (some 0) with
  accessFlags := 1537
  interfaces := #[]
  cf := some (fileOf pool7 1 #[] #[] 1537 3 #[] #[])
  fields := #[]
  methods := #[]
  instanceTypes := #[]
  staticTypes := #[]
  resolved := Array.replicate 11 none
  statics := none }

def pool8 : Array CpInfo := pool [(1, .class_ 2), (0, u "java/lang/constant/ConstantDesc"), (0, .class_ 4), (0, u "java/lang/Object")] 32

/-- java/lang/constant/ConstantDesc -/
def k8 : Class := { plain "java/lang/constant/ConstantDesc" (some 0) with
  accessFlags := 1537
  interfaces := #[]
  cf := some (fileOf pool8 1 #[] #[] 1537 3 #[] #[])
  fields := #[]
  methods := #[]
  instanceTypes := #[]
  staticTypes := #[]
  resolved := Array.replicate 37 none
  statics := none }

def pool9 : Array CpInfo := pool [(1, .methodref 2 3), (0, .class_ 4), (0, .nameAndType 5 6), (0, u "java/lang/Object"), (0, u "<init>"), (0, u "()V"), (2, .fieldref 10 11), (0, .class_ 12), (0, .nameAndType 13 14), (0, u "java/lang/String"), (0, u "value"), (0, u "[B"), (0, .fieldref 10 16), (0, .nameAndType 17 18), (0, u "coder"), (0, u "B"), (2, u "hash"), (0, u "I"), (2, u "hashIsZero"), (0, u "Z"), (0, .methodref 10 28), (0, .nameAndType 5 29), (0, u "([CIILjava/lang/Void;)V"), (8, .fieldref 10 39), (0, .nameAndType 40 26), (0, u "COMPACT_STRINGS"), (1, .class_ 44), (1, u "java/lang/StringUTF16"), (0, u "compress"), (1, .methodref 42 48), (0, .nameAndType 49 50), (0, u "coderFromArrayLen"), (0, u "([BI)B"), (126, .methodref 42 178), (0, .nameAndType 45 179), (0, u "([CII)[B"), (395, .class_ 576), (0, u "java/lang/CharSequence"), (22, u "CASE_INSENSITIVE_ORDER"), (0, u "Ljava/util/Comparator;"), (409, u "([C)V"), (90, u "serialPersistentFields"), (0, u "[Ljava/io/ObjectStreamField;"), (0, .class_ 1104), (0, u "java/lang/String$CaseInsensitiveComparator"), (1, .class_ 1107), (0, u "java/io/Serializable"), (0, .class_ 1109), (0, u "java/lang/Comparable"), (0, .class_ 1111), (0, u "java/lang/constant/Constable"), (0, .class_ 1113), (0, u "java/lang/constant/ConstantDesc"), (2, u "serialVersionUID"), (0, u "J"), (3, u "REPL"), (0, u "C"), (2, u "LATIN1"), (1, u "UTF16")] 323

def k9m0 : Method := { name := "<init>", desc := "()V", sig := { parameters := [], returnType := none }, accessFlags := 1, code := none }
def k9c1 : Code := { maxStack := 5, maxLocals := 2, code := jdk_42_method_3_code, exceptionTable := #[], attributes := #[] }
def k9m1 : Method := { name := "<init>", desc := "([C)V", sig := { parameters := [(.array .char)], returnType := none }, accessFlags := 1, code := some k9c1 }
def k9c2 : Code := { maxStack := 4, maxLocals := 6, code := jdk_42_method_149_code, exceptionTable := #[], attributes := #[] }
def k9m2 : Method := { name := "<init>", desc := "([CIILjava/lang/Void;)V", sig := { parameters := [(.array .char), .int, .int, (.object "java/lang/Void")], returnType := none }, accessFlags := 2, code := some k9c2 }
/-- java/lang/String -/
def k9 : Class := { plain "java/lang/String" (some 0) with
  accessFlags := 49
  interfaces := #[4, 5, 6, 7, 8]
  cf := some (fileOf pool9 10 #[.nestMembers #[1103]] #[{ accessFlags := 1, nameIndex := 5, descriptorIndex := 6, attributes := #[] }, { accessFlags := 1, nameIndex := 5, descriptorIndex := 1010, attributes := #[] }, { accessFlags := 2, nameIndex := 5, descriptorIndex := 29, attributes := #[] }] 49 2 #[1106, 1108, 575, 1110, 1112] #[{ accessFlags := 18, nameIndex := 13, descriptorIndex := 14, attributes := #[] }, { accessFlags := 18, nameIndex := 17, descriptorIndex := 18, attributes := #[] }, { accessFlags := 2, nameIndex := 21, descriptorIndex := 22, attributes := #[] }, { accessFlags := 2, nameIndex := 25, descriptorIndex := 26, attributes := #[] }, { accessFlags := 26, nameIndex := 1116, descriptorIndex := 1117, attributes := #[] }, { accessFlags := 24, nameIndex := 40, descriptorIndex := 26, attributes := #[] }, { accessFlags := 26, nameIndex := 1101, descriptorIndex := 1102, attributes := #[] }, { accessFlags := 26, nameIndex := 1121, descriptorIndex := 1122, attributes := #[] }, { accessFlags := 25, nameIndex := 599, descriptorIndex := 600, attributes := #[] }, { accessFlags := 24, nameIndex := 1125, descriptorIndex := 18, attributes := #[] }, { accessFlags := 24, nameIndex := 1127, descriptorIndex := 18, attributes := #[] }])
  fields := #[{ name := "value", type := (.array .byte), accessFlags := 18, slot := 0, constantValue := 0 }, { name := "coder", type := .byte, accessFlags := 18, slot := 1, constantValue := 0 }, { name := "hash", type := .int, accessFlags := 2, slot := 2, constantValue := 0 }, { name := "hashIsZero", type := .boolean, accessFlags := 2, slot := 3, constantValue := 0 }, { name := "serialVersionUID", type := .long, accessFlags := 26, slot := 0, constantValue := 0 }, { name := "COMPACT_STRINGS", type := .boolean, accessFlags := 24, slot := 1, constantValue := 0 }, { name := "serialPersistentFields", type := (.array (.object "java/io/ObjectStreamField")), accessFlags := 26, slot := 2, constantValue := 0 }, { name := "REPL", type := .char, accessFlags := 26, slot := 3, constantValue := 0 }, { name := "CASE_INSENSITIVE_ORDER", type := (.object "java/util/Comparator"), accessFlags := 25, slot := 4, constantValue := 0 }, { name := "LATIN1", type := .byte, accessFlags := 24, slot := 5, constantValue := 0 }, { name := "UTF16", type := .byte, accessFlags := 24, slot := 6, constantValue := 0 }]
  methods := #[k9m0, k9m1, k9m2]
  instanceTypes := #[(.array .byte), .byte, .int, .boolean]
  staticTypes := #[.long, .boolean, (.array (.object "java/io/ObjectStreamField")), .char, (.object "java/util/Comparator"), .byte, .byte]
  resolved := Array.replicate 1451 none
  statics := some 0 }

def pool10 : Array CpInfo := pool [(6, .class_ 8), (1, u "java/lang/Object"), (0, u "<init>"), (0, u "()V"), (1, .class_ 14), (1, u "java/lang/StringUTF16"), (31, u "$assertionsDisabled"), (0, u "Z"), (13, u "HI_BYTE_SHIFT"), (0, u "I"), (2, u "LO_BYTE_SHIFT"), (49, .methodref 12 116), (0, .nameAndType 117 118), (0, u "compress"), (0, u "([CI[BII)I"), (3, u "([CII)[B"), (138, u "coderFromArrayLen"), (0, u "([BI)B"), (106, .class_ 371), (1, u "java/lang/StringUTF16$LinesSpliterator"), (58, u "MAX_LENGTH"), (196, .class_ 628), (0, u "java/lang/StringUTF16$CodePointsSpliterator"), (0, .class_ 630), (0, u "java/lang/StringUTF16$CharsSpliterator")] 4

def k10m0 : Method := { name := "<init>", desc := "()V", sig := { parameters := [], returnType := none }, accessFlags := 0, code := none }
def k10c1 : Code := { maxStack := 2, maxLocals := 2, code := jdk_52_method_15_code, exceptionTable := #[], attributes := #[] }
def k10m1 : Method := { name := "coderFromArrayLen", desc := "([BI)B", sig := { parameters := [(.array .byte), .int], returnType := some .byte }, accessFlags := 8, code := some k10c1 }
def k10c2 : Code := { maxStack := 5, maxLocals := 6, code := jdk_52_method_16_code, exceptionTable := #[], attributes := #[] }
def k10m2 : Method := { name := "compress", desc := "([CII)[B", sig := { parameters := [(.array .char), .int, .int], returnType := some (.array .byte) }, accessFlags := 9, code := some k10c2 }
def k10c3 : Code := { maxStack := 3, maxLocals := 7, code := jdk_52_method_21_code, exceptionTable := #[], attributes := #[] }
def k10m3 : Method := { name := "compress", desc := "([CI[BII)I", sig := { parameters := [(.array .char), .int, (.array .byte), .int, .int], returnType := some .int }, accessFlags := 9, code := some k10c3 }
/-- java/lang/StringUTF16 -/
def k10 : Class := { plain "java/lang/StringUTF16" (some 0) with
  accessFlags := 48
  interfaces := #[]
  cf := some (fileOf pool10 12 #[.nestMembers #[627, 629, 369]] #[{ accessFlags := 0, nameIndex := 9, descriptorIndex := 10, attributes := #[] }, { accessFlags := 8, nameIndex := 261, descriptorIndex := 262, attributes := #[] }, { accessFlags := 9, nameIndex := 117, descriptorIndex := 122, attributes := #[] }, { accessFlags := 9, nameIndex := 117, descriptorIndex := 118, attributes := #[] }] 48 6 #[] #[{ accessFlags := 26, nameIndex := 61, descriptorIndex := 62, attributes := #[] }, { accessFlags := 26, nameIndex := 65, descriptorIndex := 62, attributes := #[] }, { accessFlags := 24, nameIndex := 430, descriptorIndex := 62, attributes := #[] }, { accessFlags := 4120, nameIndex := 46, descriptorIndex := 47, attributes := #[] }])
  fields := #[{ name := "HI_BYTE_SHIFT", type := .int, accessFlags := 26, slot := 0, constantValue := 0 }, { name := "LO_BYTE_SHIFT", type := .int, accessFlags := 26, slot := 1, constantValue := 0 }, { name := "MAX_LENGTH", type := .int, accessFlags := 24, slot := 2, constantValue := 0 }, { name := "$assertionsDisabled", type := .boolean, accessFlags := 4120, slot := 3, constantValue := 0 }]
  methods := #[k10m0, k10m1, k10m2, k10m3]
  instanceTypes := #[]
  staticTypes := #[.int, .int, .int, .boolean]
  resolved := Array.replicate 635 none
  statics := none }

def pool11 : Array CpInfo := pool [(2, .class_ 4), (1, u "java/lang/Enum"), (0, u "name"), (0, u "Ljava/lang/String;"), (2, u "ordinal"), (0, u "I"), (1, .class_ 14), (1, u "java/lang/Object"), (4, u "hash"), (86, .class_ 108), (1, u "java/lang/Enum$EnumDesc"), (2, .class_ 112), (0, u "java/lang/constant/Constable"), (0, .class_ 114), (0, u "java/lang/Comparable"), (0, .class_ 116), (0, u "java/io/Serializable")] 87

/-- java/lang/Enum -/
def k11 : Class := { plain "java/lang/Enum" (some 0) with
  accessFlags := 1057
  interfaces := #[7, 5, 4]
  cf := some (fileOf pool11 2 #[.nestMembers #[106]] #[] 1057 12 #[111, 113, 115] #[{ accessFlags := 18, nameIndex := 5, descriptorIndex := 6, attributes := #[] }, { accessFlags := 18, nameIndex := 9, descriptorIndex := 10, attributes := #[] }, { accessFlags := 2, nameIndex := 19, descriptorIndex := 10, attributes := #[] }])
  fields := #[{ name := "name", type := (.object "java/lang/String"), accessFlags := 18, slot := 0, constantValue := 0 }, { name := "ordinal", type := .int, accessFlags := 18, slot := 1, constantValue := 0 }, { name := "hash", type := .int, accessFlags := 2, slot := 2, constantValue := 0 }]
  methods := #[]
  instanceTypes := #[(.object "java/lang/String"), .int, .int]
  staticTypes := #[]
  resolved := Array.replicate 204 none
  statics := none }

def pool12 : Array CpInfo := pool [(1, .class_ 2), (0, u "com/example/bingli/bingli/conformance/DataElementFormat$Kind"), (2, u "LETTERS"), (0, u "Lcom/example/bingli/bingli/conformance/DataElementFormat$Kind;"), (2, u "TEXT"), (2, u "DIGITS"), (2, u "DECIMAL"), (2, u "DATE"), (2, u "DATE_TIME"), (2, u "LOGICAL"), (2, u "$VALUES"), (0, u "[Lcom/example/bingli/bingli/conformance/DataElementFormat$Kind;"), (6, .class_ 37), (1, u "java/lang/Enum"), (8, u "described"), (0, u "Ljava/lang/String;"), (42, .class_ 91), (0, u "com/example/bingli/bingli/conformance/DataElementFormat")] 2

/-- com/example/bingli/bingli/conformance/DataElementFormat$Kind -/
def k12 : Class := { plain "com/example/bingli/bingli/conformance/DataElementFormat$Kind" (some 11) with
  accessFlags := 16432
  interfaces := #[]
  cf := some (fileOf pool12 1 #[.nestHost 90] #[] 16432 35 #[] #[{ accessFlags := 16409, nameIndex := 5, descriptorIndex := 6, attributes := #[] }, { accessFlags := 16409, nameIndex := 9, descriptorIndex := 6, attributes := #[] }, { accessFlags := 16409, nameIndex := 12, descriptorIndex := 6, attributes := #[] }, { accessFlags := 16409, nameIndex := 15, descriptorIndex := 6, attributes := #[] }, { accessFlags := 16409, nameIndex := 18, descriptorIndex := 6, attributes := #[] }, { accessFlags := 16409, nameIndex := 21, descriptorIndex := 6, attributes := #[] }, { accessFlags := 16409, nameIndex := 24, descriptorIndex := 6, attributes := #[] }, { accessFlags := 18, nameIndex := 46, descriptorIndex := 47, attributes := #[] }, { accessFlags := 4122, nameIndex := 27, descriptorIndex := 28, attributes := #[] }])
  fields := #[{ name := "LETTERS", type := (.object "com/example/bingli/bingli/conformance/DataElementFormat$Kind"), accessFlags := 16409, slot := 0, constantValue := 0 }, { name := "TEXT", type := (.object "com/example/bingli/bingli/conformance/DataElementFormat$Kind"), accessFlags := 16409, slot := 1, constantValue := 0 }, { name := "DIGITS", type := (.object "com/example/bingli/bingli/conformance/DataElementFormat$Kind"), accessFlags := 16409, slot := 2, constantValue := 0 }, { name := "DECIMAL", type := (.object "com/example/bingli/bingli/conformance/DataElementFormat$Kind"), accessFlags := 16409, slot := 3, constantValue := 0 }, { name := "DATE", type := (.object "com/example/bingli/bingli/conformance/DataElementFormat$Kind"), accessFlags := 16409, slot := 4, constantValue := 0 }, { name := "DATE_TIME", type := (.object "com/example/bingli/bingli/conformance/DataElementFormat$Kind"), accessFlags := 16409, slot := 5, constantValue := 0 }, { name := "LOGICAL", type := (.object "com/example/bingli/bingli/conformance/DataElementFormat$Kind"), accessFlags := 16409, slot := 6, constantValue := 0 }, { name := "described", type := (.object "java/lang/String"), accessFlags := 18, slot := 3, constantValue := 0 }, { name := "$VALUES", type := (.array (.object "com/example/bingli/bingli/conformance/DataElementFormat$Kind")), accessFlags := 4122, slot := 7, constantValue := 0 }]
  methods := #[]
  instanceTypes := #[(.object "java/lang/String"), .int, .int, (.object "java/lang/String")]
  staticTypes := #[(.object "com/example/bingli/bingli/conformance/DataElementFormat$Kind"), (.object "com/example/bingli/bingli/conformance/DataElementFormat$Kind"), (.object "com/example/bingli/bingli/conformance/DataElementFormat$Kind"), (.object "com/example/bingli/bingli/conformance/DataElementFormat$Kind"), (.object "com/example/bingli/bingli/conformance/DataElementFormat$Kind"), (.object "com/example/bingli/bingli/conformance/DataElementFormat$Kind"), (.object "com/example/bingli/bingli/conformance/DataElementFormat$Kind"), (.array (.object "com/example/bingli/bingli/conformance/DataElementFormat$Kind"))]
  resolved := Array.replicate 94 none
  statics := some 1 }

def pool13 : Array CpInfo := pool [(4, .class_ 6), (1, u "java/lang/Object"), (0, u "<init>"), (0, u "()V"), (5, .class_ 16), (1, u "java/lang/StringLatin1"), (104, u "$assertionsDisabled"), (0, u "Z"), (98, .class_ 223), (1, u "java/lang/StringLatin1$LinesSpliterator"), (166, .class_ 391), (0, u "java/lang/StringLatin1$CharsSpliterator")] 3

def k13m0 : Method := { name := "<init>", desc := "()V", sig := { parameters := [], returnType := none }, accessFlags := 0, code := none }
/-- java/lang/StringLatin1 -/
def k13 : Class := { plain "java/lang/StringLatin1" (some 0) with
  accessFlags := 48
  interfaces := #[]
  cf := some (fileOf pool13 14 #[.nestMembers #[390, 221]] #[{ accessFlags := 0, nameIndex := 7, descriptorIndex := 8, attributes := #[] }] 48 4 #[] #[{ accessFlags := 4120, nameIndex := 121, descriptorIndex := 122, attributes := #[] }])
  fields := #[{ name := "$assertionsDisabled", type := .boolean, accessFlags := 4120, slot := 0, constantValue := 0 }]
  methods := #[k13m0]
  instanceTypes := #[]
  staticTypes := #[.boolean]
  resolved := Array.replicate 395 none
  statics := none }

def pool14 : Array CpInfo := pool [(2, .class_ 4), (1, u "java/lang/Object"), (0, u "<init>"), (0, u "()V"), (17, .class_ 26), (1, u "jdk/internal/util/Preconditions"), (28, .class_ 56), (0, u "jdk/internal/util/Preconditions$4"), (57, .class_ 115), (0, u "jdk/internal/util/Preconditions$1"), (7, u "SIOOBE_FORMATTER"), (0, u "Ljava/util/function/BiFunction;"), (0, .class_ 126), (0, u "jdk/internal/util/Preconditions$2"), (3, u "AIOOBE_FORMATTER"), (0, .class_ 132), (0, u "jdk/internal/util/Preconditions$3"), (3, u "IOOBE_FORMATTER")] 57

def k14m0 : Method := { name := "<init>", desc := "()V", sig := { parameters := [], returnType := none }, accessFlags := 1, code := none }
/-- jdk/internal/util/Preconditions -/
def k14 : Class := { plain "jdk/internal/util/Preconditions" (some 0) with
  accessFlags := 33
  interfaces := #[]
  cf := some (fileOf pool14 24 #[.nestMembers #[55, 131, 125, 114]] #[{ accessFlags := 1, nameIndex := 5, descriptorIndex := 6, attributes := #[] }] 33 2 #[] #[{ accessFlags := 25, nameIndex := 123, descriptorIndex := 124, attributes := #[] }, { accessFlags := 25, nameIndex := 130, descriptorIndex := 124, attributes := #[] }, { accessFlags := 25, nameIndex := 136, descriptorIndex := 124, attributes := #[] }])
  fields := #[{ name := "SIOOBE_FORMATTER", type := (.object "java/util/function/BiFunction"), accessFlags := 25, slot := 0, constantValue := 0 }, { name := "AIOOBE_FORMATTER", type := (.object "java/util/function/BiFunction"), accessFlags := 25, slot := 1, constantValue := 0 }, { name := "IOOBE_FORMATTER", type := (.object "java/util/function/BiFunction"), accessFlags := 25, slot := 2, constantValue := 0 }]
  methods := #[k14m0]
  instanceTypes := #[]
  staticTypes := #[(.object "java/util/function/BiFunction"), (.object "java/util/function/BiFunction"), (.object "java/util/function/BiFunction")]
  resolved := Array.replicate 194 none
  statics := some 2 }

def pool15 : Array CpInfo := pool [(9, u "<init>"), (6, .class_ 18), (1, u "java/lang/Object"), (0, u "()V"), (1, .class_ 23), (1, u "jdk/internal/util/ArraysSupport"), (0, u "LOG2_ARRAY_LONG_INDEX_SCALE"), (0, u "I"), (2, u "U"), (0, u "Ljdk/internal/misc/Unsafe;"), (8, u "BIG_ENDIAN"), (0, u "Z"), (8, u "LOG2_BYTE_BIT_SIZE"), (4, u "LOG2_ARRAY_INT_INDEX_SCALE"), (54, u "JLA"), (0, u "Ljdk/internal/access/JavaLangAccess;"), (11, u "LOG2_ARRAY_BOOLEAN_INDEX_SCALE"), (9, u "LOG2_ARRAY_BYTE_INDEX_SCALE"), (5, u "LOG2_ARRAY_CHAR_INDEX_SCALE"), (5, u "LOG2_ARRAY_SHORT_INDEX_SCALE"), (18, u "LOG2_ARRAY_FLOAT_INDEX_SCALE"), (24, u "LOG2_ARRAY_DOUBLE_INDEX_SCALE"), (89, u "T_BOOLEAN"), (2, u "T_CHAR"), (1, u "T_FLOAT"), (1, u "T_DOUBLE"), (1, u "T_BYTE"), (1, u "T_SHORT"), (1, u "T_INT"), (1, u "T_LONG"), (1, u "SOFT_MAX_ARRAY_LENGTH")] 83

def k15m0 : Method := { name := "<init>", desc := "()V", sig := { parameters := [], returnType := none }, accessFlags := 2, code := none }
/-- jdk/internal/util/ArraysSupport -/
def k15 : Class := { plain "jdk/internal/util/ArraysSupport" (some 0) with
  accessFlags := 33
  interfaces := #[]
  cf := some (fileOf pool15 21 #[] #[{ accessFlags := 2, nameIndex := 9, descriptorIndex := 19, attributes := #[] }] 33 16 #[] #[{ accessFlags := 24, nameIndex := 28, descriptorIndex := 29, attributes := #[] }, { accessFlags := 26, nameIndex := 38, descriptorIndex := 39, attributes := #[] }, { accessFlags := 25, nameIndex := 121, descriptorIndex := 25, attributes := #[] }, { accessFlags := 25, nameIndex := 131, descriptorIndex := 25, attributes := #[] }, { accessFlags := 25, nameIndex := 137, descriptorIndex := 25, attributes := #[] }, { accessFlags := 25, nameIndex := 143, descriptorIndex := 25, attributes := #[] }, { accessFlags := 25, nameIndex := 53, descriptorIndex := 25, attributes := #[] }, { accessFlags := 25, nameIndex := 24, descriptorIndex := 25, attributes := #[] }, { accessFlags := 25, nameIndex := 162, descriptorIndex := 25, attributes := #[] }, { accessFlags := 25, nameIndex := 187, descriptorIndex := 25, attributes := #[] }, { accessFlags := 26, nameIndex := 48, descriptorIndex := 25, attributes := #[] }, { accessFlags := 25, nameIndex := 277, descriptorIndex := 25, attributes := #[] }, { accessFlags := 25, nameIndex := 280, descriptorIndex := 25, attributes := #[] }, { accessFlags := 25, nameIndex := 282, descriptorIndex := 25, attributes := #[] }, { accessFlags := 25, nameIndex := 284, descriptorIndex := 25, attributes := #[] }, { accessFlags := 25, nameIndex := 286, descriptorIndex := 25, attributes := #[] }, { accessFlags := 25, nameIndex := 288, descriptorIndex := 25, attributes := #[] }, { accessFlags := 25, nameIndex := 290, descriptorIndex := 25, attributes := #[] }, { accessFlags := 25, nameIndex := 292, descriptorIndex := 25, attributes := #[] }, { accessFlags := 26, nameIndex := 108, descriptorIndex := 109, attributes := #[] }, { accessFlags := 25, nameIndex := 294, descriptorIndex := 25, attributes := #[] }])
  fields := #[{ name := "U", type := (.object "jdk/internal/misc/Unsafe"), accessFlags := 24, slot := 0, constantValue := 0 }, { name := "BIG_ENDIAN", type := .boolean, accessFlags := 26, slot := 1, constantValue := 0 }, { name := "LOG2_ARRAY_BOOLEAN_INDEX_SCALE", type := .int, accessFlags := 25, slot := 2, constantValue := 0 }, { name := "LOG2_ARRAY_BYTE_INDEX_SCALE", type := .int, accessFlags := 25, slot := 3, constantValue := 0 }, { name := "LOG2_ARRAY_CHAR_INDEX_SCALE", type := .int, accessFlags := 25, slot := 4, constantValue := 0 }, { name := "LOG2_ARRAY_SHORT_INDEX_SCALE", type := .int, accessFlags := 25, slot := 5, constantValue := 0 }, { name := "LOG2_ARRAY_INT_INDEX_SCALE", type := .int, accessFlags := 25, slot := 6, constantValue := 0 }, { name := "LOG2_ARRAY_LONG_INDEX_SCALE", type := .int, accessFlags := 25, slot := 7, constantValue := 0 }, { name := "LOG2_ARRAY_FLOAT_INDEX_SCALE", type := .int, accessFlags := 25, slot := 8, constantValue := 0 }, { name := "LOG2_ARRAY_DOUBLE_INDEX_SCALE", type := .int, accessFlags := 25, slot := 9, constantValue := 0 }, { name := "LOG2_BYTE_BIT_SIZE", type := .int, accessFlags := 26, slot := 10, constantValue := 0 }, { name := "T_BOOLEAN", type := .int, accessFlags := 25, slot := 11, constantValue := 0 }, { name := "T_CHAR", type := .int, accessFlags := 25, slot := 12, constantValue := 0 }, { name := "T_FLOAT", type := .int, accessFlags := 25, slot := 13, constantValue := 0 }, { name := "T_DOUBLE", type := .int, accessFlags := 25, slot := 14, constantValue := 0 }, { name := "T_BYTE", type := .int, accessFlags := 25, slot := 15, constantValue := 0 }, { name := "T_SHORT", type := .int, accessFlags := 25, slot := 16, constantValue := 0 }, { name := "T_INT", type := .int, accessFlags := 25, slot := 17, constantValue := 0 }, { name := "T_LONG", type := .int, accessFlags := 25, slot := 18, constantValue := 0 }, { name := "JLA", type := (.object "jdk/internal/access/JavaLangAccess"), accessFlags := 26, slot := 19, constantValue := 0 }, { name := "SOFT_MAX_ARRAY_LENGTH", type := .int, accessFlags := 25, slot := 20, constantValue := 0 }]
  methods := #[k15m0]
  instanceTypes := #[]
  staticTypes := #[(.object "jdk/internal/misc/Unsafe"), .boolean, .int, .int, .int, .int, .int, .int, .int, .int, .int, .int, .int, .int, .int, .int, .int, .int, .int, (.object "jdk/internal/access/JavaLangAccess"), .int]
  resolved := Array.replicate 378 none
  statics := none }

def pool16 : Array CpInfo := pool [(1, u "java/lang/Cloneable"), (0, .class_ 1), (0, u "java/lang/Object"), (0, .class_ 3)] 3

/-- java/lang/Cloneable -/
def k16 : Class := { plain "java/lang/Cloneable" (some 0) with
  accessFlags := 1537
  interfaces := #[]
  cf := some (fileOf pool16 2 #[] #[] 1537 4 #[] #[])
  fields := #[]
  methods := #[]
  instanceTypes := #[]
  staticTypes := #[]
  resolved := Array.replicate 8 none
  statics := none }

/-- the primitive byte -/
def k17 : Class := { plain "byte" none with kind := .primitive 'B', accessFlags := 0x411 }
/-- [B -/
def k18 : Class := { plain "[B" (some 0) with kind := .array 17 .byte, interfaces := #[16, 4], accessFlags := 1041 }

/-- the primitive char -/
def k19 : Class := { plain "char" none with kind := .primitive 'C', accessFlags := 0x411 }
/-- [C -/
def k20 : Class := { plain "[C" (some 0) with kind := .array 19 .char, interfaces := #[16, 4], accessFlags := 1041 }

/-- the primitive int -/
def k21 : Class := { plain "int" none with kind := .primitive 'I', accessFlags := 0x411 }
/-- [I -/
def k22 : Class := { plain "[I" (some 0) with kind := .array 21 .int, interfaces := #[16, 4], accessFlags := 1041 }

def heap : Heap := #[{ cls := 9, slots := #[.long 0, .int 1, .null, .int 0, .null, .int 0, .int 0], vm := .statics 9 },
  { cls := 12, slots := #[.ref 3, .ref 4, .ref 5, .ref 6, .ref 7, .ref 8, .ref 9, .null], vm := .statics 12 },
  { cls := 14, slots := #[.null, .null, .null], vm := .statics 14 },
  { cls := 12, slots := #[.null, .int 0, .int 0, .null], vm := .none },
  { cls := 12, slots := #[.null, .int 1, .int 0, .null], vm := .none },
  { cls := 12, slots := #[.null, .int 2, .int 0, .null], vm := .none },
  { cls := 12, slots := #[.null, .int 3, .int 0, .null], vm := .none },
  { cls := 12, slots := #[.null, .int 4, .int 0, .null], vm := .none },
  { cls := 12, slots := #[.null, .int 5, .int 0, .null], vm := .none },
  { cls := 12, slots := #[.null, .int 6, .int 0, .null], vm := .none }]
def classes : Array Class := #[k0, k1, k2, k3, k4, k5, k6, k7, k8, k9, k10, k11, k12, k13, k14, k15, k16, k17, k18, k19, k20, k21, k22]
def interned : List (Array UInt16 × Addr) := []
def slotsUsed : Nat := 46
def theMethod : MethodId := ⟨1, 2⟩
def args0 : Array Value := #[.int 1, .int 2, .int 3, .int 4, .int 5, .int 6]
def aboutOver (below : List Frame) : State where
  vm := { classes := classes, interned := interned.toArray }
  heap := heap
  slotsUsed := slotsUsed
  threads := #[{ frames := .invoking theMethod args0 :: below }]
def below0 : List Frame := [.native { method := ⟨0, 0⟩, args := #[] }]
def about1 : State := aboutOver below0
def p0 : Program := .bare "" "" ""
def e0 : Env := launch0.env 0 0 0
theorem w_frames : about1.frames = Frame.invoking theMethod args0 :: below0 := rfl
set_option maxRecDepth 65536 in
theorem w_args : argsFit about1.vm theMethod args0 = true := by decide +kernel
set_option maxRecDepth 65536 in
theorem w_heap : heapFits about1 = true := by decide +kernel
set_option maxRecDepth 65536 in
theorem w_runnable : about1.curStatus? = some .runnable := by decide +kernel
set_option maxRecDepth 65536 in
theorem w_alone : about1.alone = true := by decide +kernel
set_option maxRecDepth 65536 in
theorem w_named : about1.methodNamed? x = some theMethod := by decide +kernel
set_option maxRecDepth 65536 in
theorem w_hears : about1.hears theMethod below0 = true := by decide +kernel
set_option maxRecDepth 65536 in
theorem w_ripe : about1.ripe theMethod args0 below0 = true := by decide +kernel
theorem w_running : about1.status = .running := rfl
set_option maxRecDepth 65536 in
theorem w_room : about1.hasRoom e0.platform room_1 = true :=
  launch0.hasRoom_least _ room_1 (by decide +kernel) (by decide +kernel) (by decide +kernel) (by decide +kernel) (by decide +kernel) (by decide +kernel)
theorem allAtoms_all (ts : List Jvm.Cond) (a : Array Jvm.Value) (st : Jvm.State) : (allAtoms ts).before a st = ts.all (fun c => c.before a st) := by
  induction ts with
  | nil => rfl
  | cons c t ih =>
    show (Jvm.Cond.and c (allAtoms t)).before a st = _
    rw [Jvm.Cond.before_and, ih, List.all_cons]
def words1 : List Jvm.Cond := Jvm.Cond.code x code maxLocals ret :: tables_1
/-- a 'code' word, met by the world's own term for the bytes: nothing is compared byte by byte -/
theorem code_word {y : MethodName} {bytes : ByteArray} {mx : Nat} {rt : Option FieldType} {a : Array Value} {s : State} {m : MethodId} {meth : Method} {c : Code} (h1 : s.methodNamed? y = some m) (h2 : s.vm.method? m = some meth) (h3 : meth.code = some c) (h4 : c.code = bytes)
    (h5 : (c.maxLocals == mx && c.exceptionTable.isEmpty && decide (c.maxStack ≤ mostOperands) && decide (meth.sig.returnType = rt) && !meth.locks && decide (parseMethodDescriptor y.desc = some meth.sig)) = true) : (Jvm.Cond.code y bytes mx rt).before a s = true := by
  simp only [Bool.and_eq_true, beq_iff_eq, Bool.not_eq_true', decide_eq_true_eq] at h5
  obtain ⟨⟨⟨⟨⟨g1, g2⟩, g3⟩, g4⟩, g5⟩, g6⟩ := h5
  simp [Cond.before, Cond.holds, Cond.value, h1, h2, h3, h4, g1, g2, g3, g4, g5, g6]
def isCode : Jvm.Cond → Bool
  | .code _ _ _ _ => true
  | _ => false
theorem all_split {L : List Jvm.Cond} {P : Jvm.Cond → Bool} (h1 : L.all (fun c => isCode c || P c) = true) (h2 : ∀ c ∈ L.filter isCode, P c = true) : L.all P = true := by
  refine List.all_eq_true.mpr fun c hc => ?_
  have h := List.all_eq_true.mp h1 c hc
  rcases Bool.eq_false_or_eq_true (isCode c) with hi | hi
  · exact h2 c (List.mem_filter.mpr ⟨hc, hi⟩)
  · simpa [hi] using h
set_option maxRecDepth 65536 in
theorem w_c0 : (Jvm.Cond.code x code maxLocals ret).before args0 about1 = true := code_word (m := ⟨1, 2⟩) (meth := k1m2) (c := k1c2) (by decide +kernel) rfl rfl rfl (by decide +kernel)
set_option maxRecDepth 65536 in
theorem w_c1 : (Jvm.Cond.code ({ cls := "java/lang/String", name := "<init>", desc := "([C)V" } : Jvm.MethodName) jdk_42_method_3_code (2 : Nat) (Option.none : Option Jvm.ClassFile.FieldType)).before args0 about1 = true := code_word (m := ⟨9, 1⟩) (meth := k9m1) (c := k9c1) (by decide +kernel) rfl rfl rfl (by decide +kernel)
set_option maxRecDepth 65536 in
theorem w_c2 : (Jvm.Cond.code ({ cls := "java/lang/String", name := "<init>", desc := "([CIILjava/lang/Void;)V" } : Jvm.MethodName) jdk_42_method_149_code (6 : Nat) (Option.none : Option Jvm.ClassFile.FieldType)).before args0 about1 = true := code_word (m := ⟨9, 2⟩) (meth := k9m2) (c := k9c2) (by decide +kernel) rfl rfl rfl (by decide +kernel)
set_option maxRecDepth 65536 in
theorem w_c3 : (Jvm.Cond.code ({ cls := "java/lang/Object", name := "<init>", desc := "()V" } : Jvm.MethodName) object_method_1_code (1 : Nat) (Option.none : Option Jvm.ClassFile.FieldType)).before args0 about1 = true := code_word (m := ⟨0, 0⟩) (meth := k0m0) (c := k0c0) (by decide +kernel) rfl rfl rfl (by decide +kernel)
set_option maxRecDepth 65536 in
theorem w_c4 : (Jvm.Cond.code ({ cls := "java/lang/StringUTF16", name := "compress", desc := "([CII)[B" } : Jvm.MethodName) jdk_52_method_16_code (6 : Nat) (Option.some (Jvm.ClassFile.FieldType.array Jvm.ClassFile.FieldType.byte))).before args0 about1 = true := code_word (m := ⟨10, 2⟩) (meth := k10m2) (c := k10c2) (by decide +kernel) rfl rfl rfl (by decide +kernel)
set_option maxRecDepth 65536 in
theorem w_c5 : (Jvm.Cond.code ({ cls := "java/lang/StringUTF16", name := "compress", desc := "([CI[BII)I" } : Jvm.MethodName) jdk_52_method_21_code (7 : Nat) (Option.some Jvm.ClassFile.FieldType.int)).before args0 about1 = true := code_word (m := ⟨10, 3⟩) (meth := k10m3) (c := k10c3) (by decide +kernel) rfl rfl rfl (by decide +kernel)
set_option maxRecDepth 65536 in
theorem w_c6 : (Jvm.Cond.code ({ cls := "java/lang/StringUTF16", name := "coderFromArrayLen", desc := "([BI)B" } : Jvm.MethodName) jdk_52_method_15_code (2 : Nat) (Option.some Jvm.ClassFile.FieldType.byte)).before args0 about1 = true := code_word (m := ⟨10, 1⟩) (meth := k10m1) (c := k10c1) (by decide +kernel) rfl rfl rfl (by decide +kernel)
set_option maxRecDepth 65536 in
theorem w_c7 : (Jvm.Cond.code ({ cls := "com/example/bingli/bingli/conformance/DataElementFormatSameAsPinLaw", name := "kind", desc := "(I)Lcom/example/bingli/bingli/conformance/DataElementFormat$Kind;" } : Jvm.MethodName) method_2_code (1 : Nat) (Option.some (Jvm.ClassFile.FieldType.object "com/example/bingli/bingli/conformance/DataElementFormat$Kind"))).before args0 about1 = true := code_word (m := ⟨1, 1⟩) (meth := k1m1) (c := k1c1) (by decide +kernel) rfl rfl rfl (by decide +kernel)
set_option maxRecDepth 65536 in
theorem w_c8 : (Jvm.Cond.code ({ cls := "com/example/bingli/bingli/conformance/DataElementFormat", name := "<init>", desc := "(Ljava/lang/String;Lcom/example/bingli/bingli/conformance/DataElementFormat$Kind;III)V" } : Jvm.MethodName) prog_82_method_1_code (6 : Nat) (Option.none : Option Jvm.ClassFile.FieldType)).before args0 about1 = true := code_word (m := ⟨3, 0⟩) (meth := k3m0) (c := k3c0) (by decide +kernel) rfl rfl rfl (by decide +kernel)
set_option maxRecDepth 65536 in
theorem w_c9 : (Jvm.Cond.code ({ cls := "java/lang/Record", name := "<init>", desc := "()V" } : Jvm.MethodName) jdk_30_method_1_code (1 : Nat) (Option.none : Option Jvm.ClassFile.FieldType)).before args0 about1 = true := code_word (m := ⟨2, 0⟩) (meth := k2m0) (c := k2c0) (by decide +kernel) rfl rfl rfl (by decide +kernel)
set_option maxRecDepth 65536 in
theorem w_c10 : (Jvm.Cond.code ({ cls := "com/example/bingli/bingli/conformance/DataElementFormat", name := "sameAs", desc := "(Lcom/example/bingli/bingli/conformance/DataElementFormat;)Z" } : Jvm.MethodName) prog_82_method_4_code (2 : Nat) (Option.some Jvm.ClassFile.FieldType.boolean)).before args0 about1 = true := code_word (m := ⟨3, 1⟩) (meth := k3m1) (c := k3c1) (by decide +kernel) rfl rfl rfl (by decide +kernel)
def codes1 : List Jvm.Cond := [Jvm.Cond.code x code maxLocals ret, Jvm.Cond.code ({ cls := "java/lang/String", name := "<init>", desc := "([C)V" } : Jvm.MethodName) jdk_42_method_3_code (2 : Nat) (Option.none : Option Jvm.ClassFile.FieldType), Jvm.Cond.code ({ cls := "java/lang/String", name := "<init>", desc := "([CIILjava/lang/Void;)V" } : Jvm.MethodName) jdk_42_method_149_code (6 : Nat) (Option.none : Option Jvm.ClassFile.FieldType), Jvm.Cond.code ({ cls := "java/lang/Object", name := "<init>", desc := "()V" } : Jvm.MethodName) object_method_1_code (1 : Nat) (Option.none : Option Jvm.ClassFile.FieldType), Jvm.Cond.code ({ cls := "java/lang/StringUTF16", name := "compress", desc := "([CII)[B" } : Jvm.MethodName) jdk_52_method_16_code (6 : Nat) (Option.some (Jvm.ClassFile.FieldType.array Jvm.ClassFile.FieldType.byte)), Jvm.Cond.code ({ cls := "java/lang/StringUTF16", name := "compress", desc := "([CI[BII)I" } : Jvm.MethodName) jdk_52_method_21_code (7 : Nat) (Option.some Jvm.ClassFile.FieldType.int), Jvm.Cond.code ({ cls := "java/lang/StringUTF16", name := "coderFromArrayLen", desc := "([BI)B" } : Jvm.MethodName) jdk_52_method_15_code (2 : Nat) (Option.some Jvm.ClassFile.FieldType.byte), Jvm.Cond.code ({ cls := "com/example/bingli/bingli/conformance/DataElementFormatSameAsPinLaw", name := "kind", desc := "(I)Lcom/example/bingli/bingli/conformance/DataElementFormat$Kind;" } : Jvm.MethodName) method_2_code (1 : Nat) (Option.some (Jvm.ClassFile.FieldType.object "com/example/bingli/bingli/conformance/DataElementFormat$Kind")), Jvm.Cond.code ({ cls := "com/example/bingli/bingli/conformance/DataElementFormat", name := "<init>", desc := "(Ljava/lang/String;Lcom/example/bingli/bingli/conformance/DataElementFormat$Kind;III)V" } : Jvm.MethodName) prog_82_method_1_code (6 : Nat) (Option.none : Option Jvm.ClassFile.FieldType), Jvm.Cond.code ({ cls := "java/lang/Record", name := "<init>", desc := "()V" } : Jvm.MethodName) jdk_30_method_1_code (1 : Nat) (Option.none : Option Jvm.ClassFile.FieldType), Jvm.Cond.code ({ cls := "com/example/bingli/bingli/conformance/DataElementFormat", name := "sameAs", desc := "(Lcom/example/bingli/bingli/conformance/DataElementFormat;)Z" } : Jvm.MethodName) prog_82_method_4_code (2 : Nat) (Option.some Jvm.ClassFile.FieldType.boolean)]
set_option maxRecDepth 65536 in
theorem codes_eq : words1.filter isCode = codes1 := rfl
theorem w_codes : ∀ c ∈ words1.filter isCode, c.before args0 about1 = true := by
  rw [codes_eq]
  intro c hc
  simp only [codes1, List.mem_cons, List.not_mem_nil, or_false] at hc
  rcases hc with rfl | rfl | rfl | rfl | rfl | rfl | rfl | rfl | rfl | rfl | rfl
  · exact w_c0
  · exact w_c1
  · exact w_c2
  · exact w_c3
  · exact w_c4
  · exact w_c5
  · exact w_c6
  · exact w_c7
  · exact w_c8
  · exact w_c9
  · exact w_c10
set_option maxRecDepth 65536 in
theorem w_t1 : (words1.take 24).all (fun c => isCode c || c.before args0 about1) = true := by decide +kernel
set_option maxRecDepth 65536 in
theorem w_t2 : ((words1.drop 24).take 24).all (fun c => isCode c || c.before args0 about1) = true := by decide +kernel
set_option maxRecDepth 65536 in
theorem w_t3 : (((words1.drop 24).drop 24).take 24).all (fun c => isCode c || c.before args0 about1) = true := by decide +kernel
set_option maxRecDepth 65536 in
theorem w_t4 : (((words1.drop 24).drop 24).drop 24).all (fun c => isCode c || c.before args0 about1) = true := by decide +kernel
theorem w_tables : (allAtoms (Jvm.Cond.code x code maxLocals ret :: tables_1)).before args0 about1 = true := by
  rw [allAtoms_all]
  show words1.all (fun c => c.before args0 about1) = true
  refine all_split ?_ w_codes
  rw [← List.take_append_drop 24 words1, List.all_append, w_t1, ← List.take_append_drop 24 (words1.drop 24), List.all_append, w_t2, ← List.take_append_drop 24 ((words1.drop 24).drop 24), List.all_append, w_t3, w_t4]
  rfl
set_option maxRecDepth 65536 in
theorem w_rest : rest_1_c.before args0 about1 = true := by decide +kernel
set_option maxRecDepth 65536 in
theorem w_case : (Jvm.Cond.and given_1 narrow_1).before args0 about1 = true := by decide +kernel
theorem w_applies : (headSpec (Jvm.Cond.code x code maxLocals ret :: tables_1) room_1).applies x e0.platform about1 = true :=
  (Spec.applies_iff w_frames).mpr ⟨w_running, w_runnable, w_alone, w_named, w_hears, w_ripe, w_room, w_tables⟩
theorem atStart : AtStart classFile x code maxLocals ret World_1 tables_1 room_1 Calls_1 rest_1 Pre_1 launch0 p0 e0 about1 theMethod args0 below0 :=
  ⟨lists_1, trivial, launch0.admits_env _ _ _, launch0.least_env, fairChoices_fair.cas, fairChoices_fair.clock, w_frames, w_args, w_heap, w_applies, trivial, w_rest, w_case⟩
end start1
theorem witness_1 : WitnessClaimed_1 := ⟨start1.p0, start1.e0, start1.about1, start1.theMethod, start1.args0, start1.below0, start1.atStart⟩
end Jvm.Pilot.@@N@@
