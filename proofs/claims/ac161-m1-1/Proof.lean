import JvmDerived
import JvmDerived.Pilot.@@N@@Statement
import JvmDerived.Pilot.@@N@@Code
set_option linter.unusedVariables false
set_option linter.unusedSimpArgs false
/- laws to paste: Road.backV (cut by pick.py; bodies as the Statement names them) -/
namespace Jvm.Pilot.@@N@@
namespace StrChars
open Jvm Sem ClassFile Op Lib Jvm.Stand Jvm.Free.XT Jvm.Free.ALB Jvm.Free.JM Jvm.Free
open Jvm.Lib.Cold (StaticIs)
/-- a char array whose places are chars -/
def Ch (a : Addr) (A : Cell) (U : State) : Prop := Arr .char a A U ∧ Typed .char A
theorem Ch.mv {a : Addr} {A : Cell} {U U' : State} (h : Ch a A U) (hal : U.vm.Alike U'.vm) (hh : U'.heap = U.heap) : Ch a A U' := ⟨h.1.mv hal hh, h.2⟩
theorem Ch.keep {a : Addr} {A : Cell} {U U' : State} (h : Ch a A U) (hal : U.vm.Alike U'.vm) (hk : U'.heap[a]? = some A) : Ch a A U' := ⟨h.1.keep hal hk, h.2⟩
/-- what place i of a char[]'s cell holds -/
def cv (A : Cell) (i : Nat) : Int32 := match A.slots[i]? with | some (.int x) => x | _ => 0
theorem Ch.get {a : Addr} {A : Cell} {U : State} (h : Ch a A U) {i : Nat} (hi : i < A.slots.size) : A.slots[i]? = some (.int (cv A i)) := by
  have e := Array.getElem?_eq_getElem hi
  have f := h.2 i _ e
  unfold cv; rw [e]
  generalize A.slots[i] = v at f
  cases v <;> simp [fits] at f ⊢
/-- the byte that i2b leaves of a char -/
def lo8 (x : Int32) : Int32 := x.toInt8.toInt32
theorem fits_lo8 (y : Int32) : fits .byte (.int (lo8 y)) = true := by
  have h1 := y.toInt8.le_toInt
  have h2 := y.toInt8.toInt_lt
  simp only [lo8, fits, Bool.and_eq_true, decide_eq_true_eq, Int32.le_iff_toInt_le, Int8.toInt_toInt32, show (-128 : Int32).toInt = -128 from by decide, show (127 : Int32).toInt = 127 from by decide]
  omega
/-- A' is A but that each place j of lo .. hi - 1 holds f j -/
def Laid (A A' : Cell) (lo hi : Nat) (f : Nat → Value) : Prop := A'.cls = A.cls ∧ A'.vm = A.vm ∧ A'.slots.size = A.slots.size ∧ ∀ i, A'.slots[i]? = if lo ≤ i ∧ i < hi then some (f i) else A.slots[i]?
theorem Laid.zero (A : Cell) (lo : Nat) (f : Nat → Value) : Laid A A lo (lo + 0) f := ⟨rfl, rfl, rfl, fun i => by rw [if_neg (by omega)]⟩
theorem Laid.step {A Ak : Cell} {lo k : Nat} {f : Nat → Value} {v : Value} (h : Laid A Ak lo k f) (hlo : lo ≤ k) (hk : k < Ak.slots.size) (hv : v = f k) : Laid A (Ak.setSlot k v) lo (k + 1) f := by
  refine ⟨h.1, h.2.1, by simpa [Cell.setSlot] using h.2.2.1, fun i => ?_⟩
  by_cases e : k = i
  · subst e; rw [Cell.slots_setSlot_self v hk, if_pos (by omega), hv]
  · rw [Cell.slots_setSlot_ne v e, h.2.2.2 i]
    by_cases q : lo ≤ i ∧ i < k
    · rw [if_pos q, if_pos (by omega)]
    · rw [if_neg q, if_neg (by omega)]
def U16 : String := "java/lang/StringUTF16"
namespace Cmp5
def yN : MethodName := ⟨"java/lang/StringUTF16", "compress", "([CI[BII)I"⟩
abbrev yB : ByteArray := jdk_52_method_21_code
theorem d0 : decode yB 0 = .ok (.iconst 0, 1) := by decide +kernel
theorem d1 : decode yB 1 = .ok (.istore 5, 2) := by decide +kernel
theorem d3 : decode yB 3 = .ok (.iload 5, 2) := by decide +kernel
theorem d5 : decode yB 5 = .ok (.iload 4, 2) := by decide +kernel
theorem d7 : decode yB 7 = .ok (.if_icmp (.ge) 37, 3) := by decide +kernel
theorem d10 : decode yB 10 = .ok (.aload_n 0, 1) := by decide +kernel
theorem d11 : decode yB 11 = .ok (.iload_n 1, 1) := by decide +kernel
theorem d12 : decode yB 12 = .ok (.caload, 1) := by decide +kernel
theorem d13 : decode yB 13 = .ok (.istore 6, 2) := by decide +kernel
theorem d15 : decode yB 15 = .ok (.iload 6, 2) := by decide +kernel
theorem d17 : decode yB 17 = .ok (.sipush 255, 3) := by decide +kernel
theorem d20 : decode yB 20 = .ok (.if_icmp (.le) 6, 3) := by decide +kernel
theorem d26 : decode yB 26 = .ok (.aload_n 2, 1) := by decide +kernel
theorem d27 : decode yB 27 = .ok (.iload_n 3, 1) := by decide +kernel
theorem d28 : decode yB 28 = .ok (.iload 6, 2) := by decide +kernel
theorem d30 : decode yB 30 = .ok (.i2b, 1) := by decide +kernel
theorem d31 : decode yB 31 = .ok (.bastore, 1) := by decide +kernel
theorem d32 : decode yB 32 = .ok (.iinc 1 1, 3) := by decide +kernel
theorem d35 : decode yB 35 = .ok (.iinc 3 1, 3) := by decide +kernel
theorem d38 : decode yB 38 = .ok (.iinc 5 1, 3) := by decide +kernel
theorem d41 : decode yB 41 = .ok (.goto (-38), 3) := by decide +kernel
theorem d44 : decode yB 44 = .ok (.iload 4, 2) := by decide +kernel
theorem d46 : decode yB 46 = .ok (.ireturn, 1) := by decide +kernel
def site : List Cond := []
def tab : Cond := tabOf yN yB 7 (some .int) site
def P (b : Addr) (A : Cell) (d : Addr) (B : Cell) (o q len : Nat) (args : Array Value) (s : State) : Prop := args = #[.ref b, .int (Int32.ofNat o), .ref d, .int (Int32.ofNat q), .int (Int32.ofNat len)] ∧ Ch b A s ∧ Arr .byte d B s ∧ b ≠ d ∧ o + len ≤ A.slots.size ∧ q + len ≤ B.slots.size ∧ ∀ i, i < len → ¬ 255 < cv A (o + i)
def E (b : Addr) (A : Cell) (d : Addr) (B : Cell) (o q len : Nat) (r : Option Value) (s u : State) : Prop := r = some (.int (Int32.ofNat len)) ∧ ∃ B', Put d B' s u ∧ Laid B B' q (q + len) (fun j => Value.int (lo8 (cv A (o + (j - q)))))
/-- no char of the range above 255: len; the places written hold each char's low byte -/
theorem law (l : Launch) (b : Addr) (A : Cell) (d : Addr) (B : Cell) (o q len : Nat) : Law l yN 5 5 0 0 yB 7 (some .int) site (P b A d B o q len) (E b A d B o q len) (copyLocs d q len) 0 0 := by
  refine Law.of_walk (plainFor_of_name (by decide +kernel)) (by decide +kernel) (by decide +kernel) (by decide) (fun _ _ h => by rw [h.1]; rfl) (fun _ U U' hal hh h => ⟨h.1, h.2.1.mv hal hh, h.2.2.1.mv hal hh, h.2.2.2⟩) (fun r U U' V V' h1 hal h2 h => ⟨h.1, h.2.elim fun B' q => ⟨B', q.1.mv h1 h2, q.2⟩⟩) ?_
  intro p e s m args below meth c s₁ X0 hexec hbytes hml hret hlk hnm hown hh0 W hP
  obtain ⟨rfl, hA, hB, hne, l1, l2, hp⟩ := hP
  have c1 : Steps p.tables e below (s₁.setTop (entryFrame m #[.ref b, .int (Int32.ofNat o), .ref d, .int (Int32.ofNat q), .int (Int32.ofNat len)] 7)) (s₁.setTop (mkF m 0 #[.val (.ref b), .val (.int (Int32.ofNat o)), .val (.ref d), .val (.int (Int32.ofNat q)), .val (.int (Int32.ofNat len)), .unset, .unset] [])) := entry rfl
  have hA0 := hA.1.mv X0.warmed.alike hh0
  have hB0 := hB.mv X0.warmed.alike hh0
  have a31 := hA.1.2.2.2
  have c2 : Steps p.tables e below (s₁.setTop (entryFrame m #[.ref b, .int (Int32.ofNat o), .ref d, .int (Int32.ofNat q), .int (Int32.ofNat len)] 7)) (s₁.setTop (mkF m 3 #[.val (.ref b), .val (.int (Int32.ofNat o)), .val (.ref d), .val (.int (Int32.ofNat q)), .val (.int (Int32.ofNat len)), .val (.int 0), .unset] [])) := c1.trans (by
    refine iconstV X0.here hexec rfl 0 (hb hbytes d0) (by decide) ?_
    refine XS.istore X0.here hexec rfl (hb hbytes d1) rfl rfl ?_
    exact Steps.refl _)
  have loop : ∀ (r i : Nat), i + r = len → ∀ (z : Slot), (z = .unset ∨ ∃ w, z = .val w ∧ w.category = 1) → ∀ (Tl : State) (Bk : Cell), Stand p l e { frames := 0, locals := 0, cells := 0, slots := 0 } s m #[.ref b, .int (Int32.ofNat o), .ref d, .int (Int32.ofNat q), .int (Int32.ofNat len)] below meth c Tl ([] ++ copyLocs d q i) 0 0 → Put d Bk s₁ Tl → Laid B Bk q (q + i) (fun j => Value.int (lo8 (cv A (o + (j - q))))) →
      Steps p.tables e below (s₁.setTop (entryFrame m #[.ref b, .int (Int32.ofNat o), .ref d, .int (Int32.ofNat q), .int (Int32.ofNat len)] 7)) (Tl.setTop (mkF m 3 #[.val (.ref b), .val (.int (Int32.ofNat (o + i))), .val (.ref d), .val (.int (Int32.ofNat (q + i))), .val (.int (Int32.ofNat len)), .val (.int (Int32.ofNat i)), z] [])) → ∃ (T' : State) (B' : Cell) (z' : Slot), Stand p l e { frames := 0, locals := 0, cells := 0, slots := 0 } s m #[.ref b, .int (Int32.ofNat o), .ref d, .int (Int32.ofNat q), .int (Int32.ofNat len)] below meth c T' ([] ++ copyLocs d q len) 0 0 ∧ Put d B' s₁ T' ∧ Laid B B' q (q + len) (fun j => Value.int (lo8 (cv A (o + (j - q))))) ∧
      Steps p.tables e below (s₁.setTop (entryFrame m #[.ref b, .int (Int32.ofNat o), .ref d, .int (Int32.ofNat q), .int (Int32.ofNat len)] 7)) (T'.setTop (mkF m 3 #[.val (.ref b), .val (.int (Int32.ofNat (o + len))), .val (.ref d), .val (.int (Int32.ofNat (q + len))), .val (.int (Int32.ofNat len)), .val (.int (Int32.ofNat len)), z'] [])) := by
    intro r
    induction r with
    | zero =>
      intro i hi z hz Tl Bk Xl pl fl cl
      have hil : i = len := by omega
      rw [hil] at Xl fl cl
      exact ⟨Tl, Bk, z, Xl, pl, fl, cl⟩
    | succ r ih =>
      intro i hi z hz Tl Bk Xl pl fl cl
      have all := X0.warmed.alike.symm.trans Xl.warmed.alike
      have hAl := hA0.keep all (pl.other hne hA0.1)
      have hBk := hB0.like all pl.1 fl.1 fl.2.1 fl.2.2.1
      have hlt : q + i < Bk.slots.size := by rw [fl.2.2.1]; omega
      have c3 : Steps p.tables e below (s₁.setTop (entryFrame m #[.ref b, .int (Int32.ofNat o), .ref d, .int (Int32.ofNat q), .int (Int32.ofNat len)] 7)) (Tl.setTop (mkF m 12 #[.val (.ref b), .val (.int (Int32.ofNat (o + i))), .val (.ref d), .val (.int (Int32.ofNat (q + i))), .val (.int (Int32.ofNat len)), .val (.int (Int32.ofNat i)), z] [.int (Int32.ofNat (o + i)), .ref b])) := cl.trans (by
        refine XS.iload Xl.here hexec rfl (hb hbytes d3) rfl ?_
        refine XS.iload Xl.here hexec rfl (hb hbytes d5) rfl ?_
        refine XS.icmpNo Xl.here hexec rfl (hb hbytes d7) rfl (ii_ge_f (lt32 (by omega) (by omega))) ?_
        refine XS.aloadN Xl.here hexec rfl (hb hbytes d10) rfl rfl ?_
        refine XS.iloadN Xl.here hexec rfl (hb hbytes d11) rfl ?_
        exact Steps.refl _)
      have c4 : Steps p.tables e below (s₁.setTop (entryFrame m #[.ref b, .int (Int32.ofNat o), .ref d, .int (Int32.ofNat q), .int (Int32.ofNat len)] 7)) (Tl.setTop (mkF m 13 #[.val (.ref b), .val (.int (Int32.ofNat (o + i))), .val (.ref d), .val (.int (Int32.ofNat (q + i))), .val (.int (Int32.ofNat len)), .val (.int (Int32.ofNat i)), z] [.int (cv A (o + i))])) := c3.trans (by
        refine Xl.aget hexec hAl rfl (hA.get (i := o + i) (by omega)) rfl rfl (hb hbytes d12) ?_
        exact Steps.refl _)
      have c5 : Steps p.tables e below (s₁.setTop (entryFrame m #[.ref b, .int (Int32.ofNat o), .ref d, .int (Int32.ofNat q), .int (Int32.ofNat len)] 7)) (Tl.setTop (mkF m 15 #[.val (.ref b), .val (.int (Int32.ofNat (o + i))), .val (.ref d), .val (.int (Int32.ofNat (q + i))), .val (.int (Int32.ofNat len)), .val (.int (Int32.ofNat i)), .val (.int (cv A (o + i)))] [])) := c4.trans (by
        refine XS.istoreS Xl.here hexec rfl (hb hbytes d13) rfl rfl hz ?_
        exact Steps.refl _)
      have c6 : Steps p.tables e below (s₁.setTop (entryFrame m #[.ref b, .int (Int32.ofNat o), .ref d, .int (Int32.ofNat q), .int (Int32.ofNat len)] 7)) (Tl.setTop (mkF m 31 #[.val (.ref b), .val (.int (Int32.ofNat (o + i))), .val (.ref d), .val (.int (Int32.ofNat (q + i))), .val (.int (Int32.ofNat len)), .val (.int (Int32.ofNat i)), .val (.int (cv A (o + i)))] [.int (lo8 (cv A (o + i))), .int (Int32.ofNat (q + i)), .ref d])) := c5.trans (by
        refine XS.iload Xl.here hexec rfl (hb hbytes d15) rfl ?_
        refine sipushV Xl.here hexec rfl 255 (hb hbytes d17) (by decide) ?_
        refine XS.icmpYes Xl.here hexec rfl (pc0 := 20) rfl (hb hbytes d20) rfl (ii_le_t (hp i (by omega))) (by decide) rfl ?_
        refine XS.aloadN Xl.here hexec rfl (hb hbytes d26) rfl rfl ?_
        refine XS.iloadN Xl.here hexec rfl (hb hbytes d27) rfl ?_
        refine XS.iload Xl.here hexec rfl (hb hbytes d28) rfl ?_
        refine i2b Xl.here hexec rfl (hb hbytes d30) rfl ?_
        exact Steps.refl _)
      obtain ⟨T7, X7, p7, st7⟩ := Xl.aput hexec hBk rfl hlt rfl (fits_lo8 (cv A (o + i))) (g := (mkF m 31 #[.val (.ref b), .val (.int (Int32.ofNat (o + i))), .val (.ref d), .val (.int (Int32.ofNat (q + i))), .val (.int (Int32.ofNat len)), .val (.int (Int32.ofNat i)), .val (.int (cv A (o + i)))] [.int (lo8 (cv A (o + i))), .int (Int32.ofNat (q + i)), .ref d])) rfl (rest := []) rfl (hb hbytes d31)
      have c8 : Steps p.tables e below (s₁.setTop (entryFrame m #[.ref b, .int (Int32.ofNat o), .ref d, .int (Int32.ofNat q), .int (Int32.ofNat len)] 7)) (T7.setTop (mkF m 32 #[.val (.ref b), .val (.int (Int32.ofNat (o + i))), .val (.ref d), .val (.int (Int32.ofNat (q + i))), .val (.int (Int32.ofNat len)), .val (.int (Int32.ofNat i)), .val (.int (cv A (o + i)))] [])) := c6.trans (st7 _ (Steps.refl _))
      have c9 : Steps p.tables e below (s₁.setTop (entryFrame m #[.ref b, .int (Int32.ofNat o), .ref d, .int (Int32.ofNat q), .int (Int32.ofNat len)] 7)) (T7.setTop (mkF m 3 #[.val (.ref b), .val (.int (Int32.ofNat (o + i) + 1)), .val (.ref d), .val (.int (Int32.ofNat (q + i) + 1)), .val (.int (Int32.ofNat len)), .val (.int (Int32.ofNat i + 1)), .val (.int (cv A (o + i)))] [])) := c8.trans (by
        refine iincV X7.here hexec rfl 1 (hb hbytes d32) (by decide) rfl rfl ?_
        refine iincV X7.here hexec rfl 1 (hb hbytes d35) (by decide) rfl rfl ?_
        refine iincV X7.here hexec rfl 1 (hb hbytes d38) (by decide) rfl rfl ?_
        refine XS.goto X7.here hexec rfl (pc0 := 41) rfl (hb hbytes d41) (by decide) rfl ?_
        exact Steps.refl _)
      have c10 : Steps p.tables e below (s₁.setTop (entryFrame m #[.ref b, .int (Int32.ofNat o), .ref d, .int (Int32.ofNat q), .int (Int32.ofNat len)] 7)) (T7.setTop (mkF m 3 #[.val (.ref b), .val (.int (Int32.ofNat (o + (i + 1)))), .val (.ref d), .val (.int (Int32.ofNat (q + (i + 1)))), .val (.int (Int32.ofNat len)), .val (.int (Int32.ofNat (i + 1))), .val (.int (cv A (o + i)))] [])) := by
        have := c9
        rw [succ32, succ32, succ32] at this
        exact this
      exact ih (i + 1) (by omega) _ (Or.inr ⟨_, rfl, rfl⟩) T7 _ (by rw [copyLocs_step, ← List.append_assoc]; exact X7) (pl.trans p7) (fl.step (by omega) hlt (by simp)) c10
  obtain ⟨T9, B9, z9, X9, p9, f9, g9⟩ := loop len 0 (by omega) .unset (Or.inl rfl) s₁ B (by simpa [copyLocs] using X0) ⟨hB0.1, fun _ _ => rfl, rfl⟩ (Laid.zero _ _ _) c2
  have c11 : Steps p.tables e below (s₁.setTop (entryFrame m #[.ref b, .int (Int32.ofNat o), .ref d, .int (Int32.ofNat q), .int (Int32.ofNat len)] 7)) (T9.setTop (mkF m 46 #[.val (.ref b), .val (.int (Int32.ofNat (o + len))), .val (.ref d), .val (.int (Int32.ofNat (q + len))), .val (.int (Int32.ofNat len)), .val (.int (Int32.ofNat len)), z9] [.int (Int32.ofNat len)])) := g9.trans (by
    refine XS.iload X9.here hexec rfl (hb hbytes d3) rfl ?_
    refine XS.iload X9.here hexec rfl (hb hbytes d5) rfl ?_
    refine XS.icmpYes X9.here hexec rfl (pc0 := 7) rfl (hb hbytes d7) rfl (ii_ge_t (nlt32 (by omega) (Nat.le_refl _))) (by decide) rfl ?_
    refine XS.iload X9.here hexec rfl (hb hbytes d44) rfl ?_
    exact Steps.refl _)
  exact ⟨T9, some (.int (Int32.ofNat len)), _, _, _, X9, by simp, rfl, rfl, (fun h => by cases h), ⟨rfl, B9, p9.from hh0, f9⟩, fun fs hl => c11.trans (X9.ireturnOut hexec hret rfl (Or.inl rfl) (hb hbytes d46) hl)⟩
end Cmp5
namespace Cmp3
def yN : MethodName := ⟨"java/lang/StringUTF16", "compress", "([CII)[B"⟩
abbrev yB : ByteArray := jdk_52_method_16_code
theorem d0 : decode yB 0 = .ok (.iload_n 2, 1) := by decide +kernel
theorem d1 : decode yB 1 = .ok (.newarray .byte, 2) := by decide +kernel
theorem d3 : decode yB 3 = .ok (.astore_n 3, 1) := by decide +kernel
theorem d4 : decode yB 4 = .ok (.aload_n 0, 1) := by decide +kernel
theorem d5 : decode yB 5 = .ok (.iload_n 1, 1) := by decide +kernel
theorem d6 : decode yB 6 = .ok (.aload_n 3, 1) := by decide +kernel
theorem d7 : decode yB 7 = .ok (.iconst 0, 1) := by decide +kernel
theorem d8 : decode yB 8 = .ok (.iload_n 2, 1) := by decide +kernel
theorem d9 : decode yB 9 = .ok (.invokestatic 115, 3) := by decide +kernel
theorem d12 : decode yB 12 = .ok (.istore 4, 2) := by decide +kernel
theorem d14 : decode yB 14 = .ok (.iload 4, 2) := by decide +kernel
theorem d16 : decode yB 16 = .ok (.iload_n 2, 1) := by decide +kernel
theorem d17 : decode yB 17 = .ok (.if_icmp (.eq) 40, 3) := by decide +kernel
theorem d57 : decode yB 57 = .ok (.aload_n 3, 1) := by decide +kernel
theorem d58 : decode yB 58 = .ok (.areturn, 1) := by decide +kernel
def site : List Cond := [.arrayClass .byte, Cmp5.tab] ++ staticW U16 115 Cmp5.yN
def tab : Cond := tabOf yN yB 6 (some (.array .byte)) site
def P (b : Addr) (A : Cell) (o len : Nat) (args : Array Value) (s : State) : Prop := args = #[.ref b, .int (Int32.ofNat o), .int (Int32.ofNat len)] ∧ Ch b A s ∧ o + len ≤ A.slots.size ∧ len ≤ 536870912 ∧ ∀ i, i < len → ¬ 255 < cv A (o + i)
def E (b : Addr) (A : Cell) (o len : Nat) (r : Option Value) (s u : State) : Prop := NewArr .byte "[B" len (fun j => .int (lo8 (cv A (o + j)))) r s u ∧ u.heap.size = s.heap.size + 1
/-- no char of the range above 255: a new byte[] of their low bytes -/
theorem law (l : Launch) (b : Addr) (A : Cell) (o len : Nat) : Law l yN 3 3 1 18 yB 6 (some (.array .byte)) site (P b A o len) (E b A o len) [] 1 len := by
  refine Law.of_walk (plainFor_of_name (by decide +kernel)) (by decide +kernel) (by decide +kernel) (by decide) (fun _ _ h => by rw [h.1]; rfl) (fun _ U U' hal hh h => ⟨h.1, h.2.1.mv hal hh, h.2.2⟩) (fun r U U' V V' h1 hal h2 h => ⟨NewArr.mv r U U' V V' h1 hal h2 h.1, by rw [h1, h2]; exact h.2⟩) ?_
  intro p e s m args below meth c s₁ X0 hexec hbytes hml hret hlk hnm hown hh0 W hP
  obtain ⟨rfl, hA, l1, l2, hp⟩ := hP
  have a31 := hA.1.2.2.2
  have c1 : Steps p.tables e below (s₁.setTop (entryFrame m #[.ref b, .int (Int32.ofNat o), .int (Int32.ofNat len)] 6)) (s₁.setTop (mkF m 0 #[.val (.ref b), .val (.int (Int32.ofNat o)), .val (.int (Int32.ofNat len)), .unset, .unset, .unset] [])) := entry rfl
  have c2 : Steps p.tables e below (s₁.setTop (entryFrame m #[.ref b, .int (Int32.ofNat o), .int (Int32.ofNat len)] 6)) (s₁.setTop (mkF m 1 #[.val (.ref b), .val (.int (Int32.ofNat o)), .val (.int (Int32.ofNat len)), .unset, .unset, .unset] [.int (Int32.ofNat len)])) := c1.trans (by
    refine XS.iloadN X0.here hexec rfl (hb hbytes d0) rfl ?_
    exact Steps.refl _)
  obtain ⟨T3, B3, X3, ba3, bs3, bv3, bh3, bf3, st3⟩ := X0.anew hexec (atype := .byte) (wk W (.arrayClass .byte)) rfl (by show len * 1 ≤ _; omega) (by omega) (g := (mkF m 1 #[.val (.ref b), .val (.int (Int32.ofNat o)), .val (.int (Int32.ofNat len)), .unset, .unset, .unset] [.int (Int32.ofNat len)])) rfl (hb hbytes d1) (rest := []) rfl (Nat.le_refl _) (by show 0 + len ≤ len; omega)
  rw [hh0] at ba3 st3
  have kp3 : XT.Kept s T3 := (XT.Kept.of_eq hh0).push bh3
  have hA3 := hA.keep X3.warmed.alike (kp3 _ _ hA.1.1)
  have hne : b ≠ s.heap.size := hA.1.ne
  have c4 : Steps p.tables e below (s₁.setTop (entryFrame m #[.ref b, .int (Int32.ofNat o), .int (Int32.ofNat len)] 6)) (T3.setTop (mkF m 3 #[.val (.ref b), .val (.int (Int32.ofNat o)), .val (.int (Int32.ofNat len)), .unset, .unset, .unset] [.ref s.heap.size])) := c2.trans (st3 _ (Steps.refl _))
  have c5 : Steps p.tables e below (s₁.setTop (entryFrame m #[.ref b, .int (Int32.ofNat o), .int (Int32.ofNat len)] 6)) (T3.setTop (mkF m 9 #[.val (.ref b), .val (.int (Int32.ofNat o)), .val (.int (Int32.ofNat len)), .val (.ref s.heap.size), .unset, .unset] [.int (Int32.ofNat len), .int 0, .ref s.heap.size, .int (Int32.ofNat o), .ref b])) := c4.trans (by
    refine XS.astoreN X3.here hexec rfl (hb hbytes d3) rfl rfl rfl ?_
    refine XS.aloadN X3.here hexec rfl (hb hbytes d4) rfl rfl ?_
    refine XS.iloadN X3.here hexec rfl (hb hbytes d5) rfl ?_
    refine XS.aloadN X3.here hexec rfl (hb hbytes d6) rfl rfl ?_
    refine iconstV X3.here hexec rfl 0 (hb hbytes d7) (by decide) ?_
    refine XS.iloadN X3.here hexec rfl (hb hbytes d8) rfl ?_
    exact Steps.refl _)
  obtain ⟨v6, T6, X6, E6, g6⟩ := X3.callS hexec (Cmp5.law l b A s.heap.size B3 o 0 len) hown (wks W (staticW U16 115 Cmp5.yN)) (wk W Cmp5.tab) (W := 0) (Nat.le_of_ble_eq_true rfl) (Nat.le_of_ble_eq_true rfl) (Nat.le_refl _) (by show 0 + len + 0 ≤ len; omega) (g := (mkF m 9 #[.val (.ref b), .val (.int (Int32.ofNat o)), .val (.int (Int32.ofNat len)), .val (.ref s.heap.size), .unset, .unset] [.int (Int32.ofNat len), .int (Int32.ofNat 0), .ref s.heap.size, .int (Int32.ofNat o), .ref b])) rfl (by rw [hml]; rfl) c5 (argsL := [.ref b, .int (Int32.ofNat o), .ref s.heap.size, .int (Int32.ofNat 0), .int (Int32.ofNat len)]) (rest := []) rfl rfl (by show 2 * 0 + 0 ≤ _; decide) (hb hbytes d9) (⟨rfl, hA3, ba3, hne, l1, by rw [bs3]; simp, hp⟩)
  obtain ⟨rfl, B6, p6, f6⟩ := E6
  have c7 : Steps p.tables e below (s₁.setTop (entryFrame m #[.ref b, .int (Int32.ofNat o), .int (Int32.ofNat len)] 6)) (T6.setTop (mkF m 12 #[.val (.ref b), .val (.int (Int32.ofNat o)), .val (.int (Int32.ofNat len)), .val (.ref s.heap.size), .unset, .unset] [.int (Int32.ofNat len)])) := g6
  have c8 : Steps p.tables e below (s₁.setTop (entryFrame m #[.ref b, .int (Int32.ofNat o), .int (Int32.ofNat len)] 6)) (T6.setTop (mkF m 58 #[.val (.ref b), .val (.int (Int32.ofNat o)), .val (.int (Int32.ofNat len)), .val (.ref s.heap.size), .val (.int (Int32.ofNat len)), .unset] [.ref s.heap.size])) := c7.trans (by
    refine XS.istore X6.here hexec rfl (hb hbytes d12) rfl rfl ?_
    refine XS.iload X6.here hexec rfl (hb hbytes d14) rfl ?_
    refine XS.iloadN X6.here hexec rfl (hb hbytes d16) rfl ?_
    refine XS.icmpYes X6.here hexec rfl (pc0 := 17) rfl (hb hbytes d17) rfl (ii_eq_t rfl) (by decide) rfl ?_
    refine XS.aloadN X6.here hexec rfl (hb hbytes d57) rfl rfl ?_
    exact Steps.refl _)
  have X8 := X6.wide (L' := []) (cells' := 1) (slots' := len) (fun x hx hlt => by
    simp only [List.nil_append, copyLocs, List.mem_map, List.mem_range] at hx
    obtain ⟨i, -, rfl⟩ := hx
    exact absurd hlt (Nat.lt_irrefl _)) (Nat.le_refl _) (by omega)
  exact ⟨T6, some (.ref s.heap.size), _, _, _, X8, rfl, rfl, rfl, (fun h => by cases h), ⟨⟨rfl, B6, ba3.like (X3.warmed.alike.symm.trans X6.warmed.alike) p6.1 f6.1 f6.2.1 f6.2.2.1, f6.2.1.trans bv3, by rw [X6.warmed.alike.findClass, f6.1]; exact bf3, by rw [f6.2.2.1, bs3]; simp, fun j hj => by rw [f6.2.2.2 j, if_pos (by omega)]; rfl, kp3.put p6 (Nat.le_refl _)⟩, by rw [p6.2.2, bh3, hh0]; simp⟩, fun fs hl => c8.trans (X8.areturnOut hexec rfl hret rfl (hb hbytes d58) hl)⟩
end Cmp3
namespace CodL
def yN : MethodName := ⟨"java/lang/StringUTF16", "coderFromArrayLen", "([BI)B"⟩
abbrev yB : ByteArray := jdk_52_method_15_code
theorem d0 : decode yB 0 = .ok (.iload_n 1, 1) := by decide +kernel
theorem d1 : decode yB 1 = .ok (.aload_n 0, 1) := by decide +kernel
theorem d2 : decode yB 2 = .ok (.arraylength, 1) := by decide +kernel
theorem d3 : decode yB 3 = .ok (.isub, 1) := by decide +kernel
theorem d4 : decode yB 4 = .ok (.bipush 31, 2) := by decide +kernel
theorem d6 : decode yB 6 = .ok (.iushr, 1) := by decide +kernel
theorem d7 : decode yB 7 = .ok (.i2b, 1) := by decide +kernel
theorem d8 : decode yB 8 = .ok (.ireturn, 1) := by decide +kernel
def site : List Cond := []
def tab : Cond := tabOf yN yB 2 (some .byte) site
def P (d : Addr) (B : Cell) (args : Array Value) (s : State) : Prop := args = #[.ref d, .int (Int32.ofNat B.slots.size)] ∧ Arr .byte d B s
def E (r : Option Value) (s u : State) : Prop := XT.PureE (some (.int 0)) r s u
/-- an array as long as the number of chars: LATIN1 -/
theorem law (l : Launch) (d : Addr) (B : Cell) : Law l yN 2 2 0 0 yB 2 (some .byte) site (P d B) E [] 0 0 := by
  refine Law.of_walk (plainFor_of_name (by decide +kernel)) (by decide +kernel) (by decide +kernel) (by decide) (fun _ _ h => by rw [h.1]; rfl) (fun _ U U' hal hh h => ⟨h.1, h.2.mv hal hh⟩) (fun r U U' V V' h1 hal h2 h => XT.PureE.mv r U U' V V' h1 hal h2 h) ?_
  intro p e s m args below meth c s₁ X0 hexec hbytes hml hret hlk hnm hown hh0 W hP
  obtain ⟨rfl, hB⟩ := hP
  have hB0 := hB.mv X0.warmed.alike hh0
  have c1 : Steps p.tables e below (s₁.setTop (entryFrame m #[.ref d, .int (Int32.ofNat B.slots.size)] 2)) (s₁.setTop (mkF m 0 #[.val (.ref d), .val (.int (Int32.ofNat B.slots.size))] [])) := entry rfl
  have c2 : Steps p.tables e below (s₁.setTop (entryFrame m #[.ref d, .int (Int32.ofNat B.slots.size)] 2)) (s₁.setTop (mkF m 2 #[.val (.ref d), .val (.int (Int32.ofNat B.slots.size))] [.ref d, .int (Int32.ofNat B.slots.size)])) := c1.trans (by
    refine XS.iloadN X0.here hexec rfl (hb hbytes d0) rfl ?_
    refine XS.aloadN X0.here hexec rfl (hb hbytes d1) rfl rfl ?_
    exact Steps.refl _)
  have c3 : Steps p.tables e below (s₁.setTop (entryFrame m #[.ref d, .int (Int32.ofNat B.slots.size)] 2)) (s₁.setTop (mkF m 8 #[.val (.ref d), .val (.int (Int32.ofNat B.slots.size))] [.int (lo8 (ushr (Int32.ofNat B.slots.size - Int32.ofNat B.slots.size) 31))])) := c2.trans (by
    refine X0.alen hexec hB0 rfl rfl (hb hbytes d2) ?_
    refine XS.isub X0.here hexec rfl (hb hbytes d3) rfl ?_
    refine bipushV X0.here hexec rfl 31 (hb hbytes d4) (by decide) ?_
    refine iushr X0.here hexec rfl (hb hbytes d6) rfl ?_
    refine i2b X0.here hexec rfl (hb hbytes d7) rfl ?_
    exact Steps.refl _)
  have e0 : lo8 (ushr (Int32.ofNat B.slots.size - Int32.ofNat B.slots.size) 31) = 0 := by rw [Int32.sub_self]; decide
  rw [e0] at c3
  exact ⟨s₁, some (.int 0), _, _, _, X0, rfl, rfl, rfl, (fun h => by cases h), ⟨rfl, hh0⟩, fun fs hl => c3.trans (X0.ireturnOut hexec hret rfl (Or.inr (Or.inr (Or.inl rfl))) (hb hbytes d8) hl)⟩
end CodL
/-- the String at a is Latin-1 over a new byte[] (the heap's one new cell): the low bytes of the len chars of A from o on; every cell but a is kept -/
def Got (a : Addr) (D : Cell) (fV fC : Field) (A : Cell) (o len : Nat) (r : Option Value) (s u : State) : Prop := r = none ∧ ∃ D' V : Cell, Blank "java/lang/String" a D' u ∧ Same D D' [fV.slot, fC.slot] ∧ D'.slots[fV.slot]? = some (.ref s.heap.size) ∧ D'.slots[fC.slot]? = some (.int 0) ∧ Arr .byte s.heap.size V u ∧ V.vm = .none ∧ u.vm.findClass "[B" = some V.cls ∧ V.slots.size = len ∧ (∀ j, j < len → V.slots[j]? = some (.int (lo8 (cv A (o + j))))) ∧ (∀ (y : Addr) (c : Cell), y ≠ a → s.heap[y]? = some c → u.heap[y]? = some c) ∧ u.heap.size = s.heap.size + 1
theorem Got.mv {a : Addr} {D A : Cell} {fV fC : Field} {o len : Nat} : ∀ r (U U' V V' : State), U'.heap = U.heap → V.vm.Alike V'.vm → V'.heap = V.heap → Got a D fV fC A o len r U V → Got a D fV fC A o len r U' V' :=
  fun r U U' V V' h1 hal h2 ⟨e0, D', X, a1, a2, a3, a4, a5, a6, a7, a8, a9, a10, a11⟩ => ⟨e0, D', X, a1.mv hal h2, a2, by rw [h1]; exact a3, a4, by rw [h1]; exact a5.mv hal h2, a6, by rw [hal.findClass]; exact a7, a8, a9, by rw [h1, h2]; exact a10, by rw [h1, h2]; exact a11⟩
namespace New4
def yN : MethodName := ⟨"java/lang/String", "<init>", "([CIILjava/lang/Void;)V"⟩
abbrev yB : ByteArray := jdk_42_method_149_code
theorem d0 : decode yB 0 = .ok (.aload_n 0, 1) := by decide +kernel
theorem d1 : decode yB 1 = .ok (.invokespecial 1, 3) := by decide +kernel
theorem d4 : decode yB 4 = .ok (.iload_n 3, 1) := by decide +kernel
theorem d5 : decode yB 5 = .ok (.ifCond (.ne) 22, 3) := by decide +kernel
theorem d27 : decode yB 27 = .ok (.getstatic 38, 3) := by decide +kernel
theorem d30 : decode yB 30 = .ok (.ifCond (.eq) 28, 3) := by decide +kernel
theorem d33 : decode yB 33 = .ok (.aload_n 1, 1) := by decide +kernel
theorem d34 : decode yB 34 = .ok (.iload_n 2, 1) := by decide +kernel
theorem d35 : decode yB 35 = .ok (.iload_n 3, 1) := by decide +kernel
theorem d36 : decode yB 36 = .ok (.invokestatic 177, 3) := by decide +kernel
theorem d39 : decode yB 39 = .ok (.astore 5, 2) := by decide +kernel
theorem d41 : decode yB 41 = .ok (.aload_n 0, 1) := by decide +kernel
theorem d42 : decode yB 42 = .ok (.aload 5, 2) := by decide +kernel
theorem d44 : decode yB 44 = .ok (.iload_n 3, 1) := by decide +kernel
theorem d45 : decode yB 45 = .ok (.invokestatic 47, 3) := by decide +kernel
theorem d48 : decode yB 48 = .ok (.putfield 15, 3) := by decide +kernel
theorem d51 : decode yB 51 = .ok (.aload_n 0, 1) := by decide +kernel
theorem d52 : decode yB 52 = .ok (.aload 5, 2) := by decide +kernel
theorem d54 : decode yB 54 = .ok (.putfield 9, 3) := by decide +kernel
theorem d57 : decode yB 57 = .ok (.return_, 1) := by decide +kernel
def site : List Cond := [.fieldLink "java/lang/String" 38 "java/lang/String" "COMPACT_STRINGS" "Z", Cmp3.tab, CodL.tab, .laysFinal "java/lang/String" "java/lang/String" "value" "[B", .fieldLink "java/lang/String" 9 "java/lang/String" "value" "[B", .laysFinal "java/lang/String" "java/lang/String" "coder" "B", .fieldLink "java/lang/String" 15 "java/lang/String" "coder" "B"] ++ objW "java/lang/String" 1 ++ staticW "java/lang/String" 177 Cmp3.yN ++ staticW "java/lang/String" 47 CodL.yN
def tab : Cond := tabOf yN yB 6 none site
def P (a : Addr) (D : Cell) (fV fC : Field) (b : Addr) (A : Cell) (z : Int32) (o len : Nat) (args : Array Value) (s : State) : Prop := args = #[.ref a, .ref b, .int (Int32.ofNat o), .int (Int32.ofNat len), .null] ∧ Blank "java/lang/String" a D s ∧ Found "java/lang/String" "value" "[B" fV s ∧ Found "java/lang/String" "coder" "B" fC s ∧ Ch b A s ∧ StaticIs s "java/lang/String" "COMPACT_STRINGS" "Z" (.int z) ∧ ¬ z = 0 ∧ 0 < len ∧ o + len ≤ A.slots.size ∧ len ≤ 536870912 ∧ ∀ i, i < len → ¬ 255 < cv A (o + i)
def E (a : Addr) (D : Cell) (fV fC : Field) (A : Cell) (o len : Nat) (r : Option Value) (s u : State) : Prop := Got a D fV fC A o len r s u
/-- len > 0, no char of the range above 255: a Latin-1 String of their low bytes -/
theorem law (l : Launch) (a : Addr) (D : Cell) (fV fC : Field) (b : Addr) (A : Cell) (z : Int32) (o len : Nat) : Law l yN 5 4 2 35 yB 6 none site (P a D fV fC b A z o len) (E a D fV fC A o len) [⟨a, fC.slot⟩, ⟨a, fV.slot⟩] 1 len := by
  refine Law.of_walk (plainFor_of_name (by decide +kernel)) (by decide +kernel) (by decide +kernel) (by decide) (fun _ _ h => by rw [h.1]; rfl) (fun _ U U' hal hh h => ⟨h.1, h.2.1.mv hal hh, h.2.2.1.al hal, h.2.2.2.1.al hal, h.2.2.2.2.1.mv hal hh, h.2.2.2.2.2.1.there hal hh, h.2.2.2.2.2.2⟩) (fun r U U' V V' h1 hal h2 h => Got.mv r U U' V V' h1 hal h2 h) ?_
  intro p e s m args below meth c s₁ X0 hexec hbytes hml hret hlk hnm hown hh0 W hP
  obtain ⟨rfl, hB, f1, f2, hA, s1, hz, l0, l1, l2, hp⟩ := hP
  have a31 := hA.1.2.2.2
  have c1 : Steps p.tables e below (s₁.setTop (entryFrame m #[.ref a, .ref b, .int (Int32.ofNat o), .int (Int32.ofNat len), .null] 6)) (s₁.setTop (mkF m 0 #[.val (.ref a), .val (.ref b), .val (.int (Int32.ofNat o)), .val (.int (Int32.ofNat len)), .val .null, .unset] [])) := entry rfl
  have c2 : Steps p.tables e below (s₁.setTop (entryFrame m #[.ref a, .ref b, .int (Int32.ofNat o), .int (Int32.ofNat len), .null] 6)) (s₁.setTop (mkF m 1 #[.val (.ref a), .val (.ref b), .val (.int (Int32.ofNat o)), .val (.int (Int32.ofNat len)), .val .null, .unset] [.ref a])) := c1.trans (by
    refine XS.aloadN X0.here hexec rfl (hb hbytes d0) rfl rfl ?_
    exact Steps.refl _)
  obtain ⟨T3, X3, q3, st3⟩ := X0.oinit hexec hown (wks W (objW "java/lang/String" 1)) (g := (mkF m 1 #[.val (.ref a), .val (.ref b), .val (.int (Int32.ofNat o)), .val (.int (Int32.ofNat len)), .val .null, .unset] [.ref a])) rfl (by rw [hml]; rfl) (rest := []) rfl (hb hbytes d1) (W := 0) (by show 2 * 0 + 0 ≤ _; decide) (Nat.le_of_ble_eq_true rfl) (Nat.le_of_ble_eq_true rfl)
  have hh3 := q3.trans hh0
  have c4 : Steps p.tables e below (s₁.setTop (entryFrame m #[.ref a, .ref b, .int (Int32.ofNat o), .int (Int32.ofNat len), .null] 6)) (T3.setTop (mkF m 27 #[.val (.ref a), .val (.ref b), .val (.int (Int32.ofNat o)), .val (.int (Int32.ofNat len)), .val .null, .unset] [])) := (c2.trans (st3 _ (Steps.refl _))).trans (by
    refine XS.iloadN X3.here hexec rfl (hb hbytes d4) rfl ?_
    refine XS.ifYes X3.here hexec rfl (pc0 := 5) rfl (hb hbytes d5) rfl (i0_ne_t (nz32 (by omega) l0)) (by decide) rfl ?_
    exact Steps.refl _)
  obtain ⟨T5, X5, q5, st5⟩ := X3.sget hexec hown (wk W (.fieldLink "java/lang/String" 38 "java/lang/String" "COMPACT_STRINGS" "Z")) s1 (fun _ _ h => by rw [hh3]; exact h) (g := (mkF m 27 #[.val (.ref a), .val (.ref b), .val (.int (Int32.ofNat o)), .val (.int (Int32.ofNat len)), .val .null, .unset] [])) rfl (hb hbytes d27)
  have hh5 := q5.trans hh3
  have c6 : Steps p.tables e below (s₁.setTop (entryFrame m #[.ref a, .ref b, .int (Int32.ofNat o), .int (Int32.ofNat len), .null] 6)) (T5.setTop (mkF m 30 #[.val (.ref a), .val (.ref b), .val (.int (Int32.ofNat o)), .val (.int (Int32.ofNat len)), .val .null, .unset] [.int z])) := c4.trans (st5 _ (Steps.refl _))
  have c7 : Steps p.tables e below (s₁.setTop (entryFrame m #[.ref a, .ref b, .int (Int32.ofNat o), .int (Int32.ofNat len), .null] 6)) (T5.setTop (mkF m 36 #[.val (.ref a), .val (.ref b), .val (.int (Int32.ofNat o)), .val (.int (Int32.ofNat len)), .val .null, .unset] [.int (Int32.ofNat len), .int (Int32.ofNat o), .ref b])) := c6.trans (by
    refine XS.ifNo X5.here hexec rfl (hb hbytes d30) rfl (i0_eq_f hz) ?_
    refine XS.aloadN X5.here hexec rfl (hb hbytes d33) rfl rfl ?_
    refine XS.iloadN X5.here hexec rfl (hb hbytes d34) rfl ?_
    refine XS.iloadN X5.here hexec rfl (hb hbytes d35) rfl ?_
    exact Steps.refl _)
  obtain ⟨v8, T8, X8, E8, g8⟩ := X5.callS hexec (Cmp3.law l b A o len) hown (wks W (staticW "java/lang/String" 177 Cmp3.yN)) (wk W Cmp3.tab) (W := 0) (Nat.le_of_ble_eq_true rfl) (Nat.le_of_ble_eq_true rfl) (Nat.le_refl _) (by show 0 + len ≤ len; omega) (g := (mkF m 36 #[.val (.ref a), .val (.ref b), .val (.int (Int32.ofNat o)), .val (.int (Int32.ofNat len)), .val .null, .unset] [.int (Int32.ofNat len), .int (Int32.ofNat o), .ref b])) rfl (by rw [hml]; rfl) c7 (argsL := [.ref b, .int (Int32.ofNat o), .int (Int32.ofNat len)]) (rest := []) rfl rfl (by show 2 * 0 + 0 ≤ _; decide) (hb hbytes d36) (⟨rfl, hA.mv X5.warmed.alike hh5, l1, l2, hp⟩)
  obtain ⟨e8, z8⟩ := E8
  obtain ⟨rfl, N, n1, n2, n3, n4, n5, n6⟩ := NewArr.mv _ T5 s _ _ hh5.symm (Vm.Alike.refl _) rfl e8
  rw [hh5] at z8
  have hB1 := hB.keep X8.warmed.alike (n6 _ _ hB.1)
  have hne : s.heap.size ≠ a := (Nat.ne_of_lt (Array.getElem?_eq_some_iff.mp hB.1).1).symm
  have c9 : Steps p.tables e below (s₁.setTop (entryFrame m #[.ref a, .ref b, .int (Int32.ofNat o), .int (Int32.ofNat len), .null] 6)) (T8.setTop (mkF m 39 #[.val (.ref a), .val (.ref b), .val (.int (Int32.ofNat o)), .val (.int (Int32.ofNat len)), .val .null, .unset] [.ref s.heap.size])) := g8
  have c10 : Steps p.tables e below (s₁.setTop (entryFrame m #[.ref a, .ref b, .int (Int32.ofNat o), .int (Int32.ofNat len), .null] 6)) (T8.setTop (mkF m 45 #[.val (.ref a), .val (.ref b), .val (.int (Int32.ofNat o)), .val (.int (Int32.ofNat len)), .val .null, .val (.ref s.heap.size)] [.int (Int32.ofNat N.slots.size), .ref s.heap.size, .ref a])) := by
    have hc : Steps p.tables e below (s₁.setTop (entryFrame m #[.ref a, .ref b, .int (Int32.ofNat o), .int (Int32.ofNat len), .null] 6)) (T8.setTop (mkF m 45 #[.val (.ref a), .val (.ref b), .val (.int (Int32.ofNat o)), .val (.int (Int32.ofNat len)), .val .null, .val (.ref s.heap.size)] [.int (Int32.ofNat len), .ref s.heap.size, .ref a])) := c9.trans (by
      refine XS.astore X8.here hexec rfl (hb hbytes d39) rfl rfl rfl ?_
      refine XS.aloadN X8.here hexec rfl (hb hbytes d41) rfl rfl ?_
      refine XS.aload X8.here hexec rfl (hb hbytes d42) rfl rfl ?_
      refine XS.iloadN X8.here hexec rfl (hb hbytes d44) rfl ?_
      exact Steps.refl _)
    rw [n4]; exact hc
  obtain ⟨v11, T11, X11, E11, g11⟩ := X8.callS hexec (CodL.law l s.heap.size N) hown (wks W (staticW "java/lang/String" 47 CodL.yN)) (wk W CodL.tab) (W := 1) (Nat.le_of_ble_eq_true rfl) (Nat.le_of_ble_eq_true rfl) (Nat.le_refl _) (by show 0 + len + 0 ≤ len; omega) (g := (mkF m 45 #[.val (.ref a), .val (.ref b), .val (.int (Int32.ofNat o)), .val (.int (Int32.ofNat len)), .val .null, .val (.ref s.heap.size)] [.int (Int32.ofNat N.slots.size), .ref s.heap.size, .ref a])) rfl (by rw [hml]; rfl) c10 (argsL := [.ref s.heap.size, .int (Int32.ofNat N.slots.size)]) (rest := [.ref a]) rfl rfl (by show 2 * 0 + (1 + 0) ≤ _; decide) (hb hbytes d45) (⟨rfl, n1⟩)
  obtain ⟨rfl, q11⟩ := E11
  have hB11 := hB1.mv (X8.warmed.alike.symm.trans X11.warmed.alike) q11
  have c12 : Steps p.tables e below (s₁.setTop (entryFrame m #[.ref a, .ref b, .int (Int32.ofNat o), .int (Int32.ofNat len), .null] 6)) (T11.setTop (mkF m 48 #[.val (.ref a), .val (.ref b), .val (.int (Int32.ofNat o)), .val (.int (Int32.ofNat len)), .val .null, .val (.ref s.heap.size)] [.int 0, .ref a])) := g11
  obtain ⟨T13, X13, p13, bl13, sl13, st13⟩ := X11.finit hexec hown (wk W (.fieldLink "java/lang/String" 15 "java/lang/String" "coder" "B")) (Or.inr ⟨_, (wk W (.laysFinal "java/lang/String" "java/lang/String" "coder" "B"))⟩) (Or.inl ⟨rfl, hnm⟩) f2 (Or.inl rfl) hB11 (t := .byte) (by decide +kernel) rfl (g := (mkF m 48 #[.val (.ref a), .val (.ref b), .val (.int (Int32.ofNat o)), .val (.int (Int32.ofNat len)), .val .null, .val (.ref s.heap.size)] [.int 0, .ref a])) rfl (rest := []) rfl (hb hbytes d48)
  have c14 : Steps p.tables e below (s₁.setTop (entryFrame m #[.ref a, .ref b, .int (Int32.ofNat o), .int (Int32.ofNat len), .null] 6)) (T13.setTop (mkF m 54 #[.val (.ref a), .val (.ref b), .val (.int (Int32.ofNat o)), .val (.int (Int32.ofNat len)), .val .null, .val (.ref s.heap.size)] [.ref s.heap.size, .ref a])) := (c12.trans (st13 _ (Steps.refl _))).trans (by
    refine XS.aloadN X13.here hexec rfl (hb hbytes d51) rfl rfl ?_
    refine XS.aload X13.here hexec rfl (hb hbytes d52) rfl rfl ?_
    exact Steps.refl _)
  obtain ⟨T15, X15, p15, bl15, sl15, st15⟩ := X13.finit hexec hown (wk W (.fieldLink "java/lang/String" 9 "java/lang/String" "value" "[B")) (Or.inr ⟨_, (wk W (.laysFinal "java/lang/String" "java/lang/String" "value" "[B"))⟩) (Or.inl ⟨rfl, hnm⟩) f1 (Or.inl rfl) bl13 (t := (.array .byte)) (by decide +kernel) rfl (g := (mkF m 54 #[.val (.ref a), .val (.ref b), .val (.int (Int32.ofNat o)), .val (.int (Int32.ofNat len)), .val .null, .val (.ref s.heap.size)] [.ref s.heap.size, .ref a])) rfl (rest := []) rfl (hb hbytes d54)
  have c16 : Steps p.tables e below (s₁.setTop (entryFrame m #[.ref a, .ref b, .int (Int32.ofNat o), .int (Int32.ofNat len), .null] 6)) (T15.setTop (mkF m 57 #[.val (.ref a), .val (.ref b), .val (.int (Int32.ofNat o)), .val (.int (Int32.ofNat len)), .val .null, .val (.ref s.heap.size)] [])) := c14.trans (st15 _ (Steps.refl _))
  have ap := apart (Or.inr ⟨_, (wk W (.laysFinal "java/lang/String" "java/lang/String" "value" "[B"))⟩) (Or.inr ⟨_, (wk W (.laysFinal "java/lang/String" "java/lang/String" "coder" "B"))⟩) f1 f2 (t₁ := .array .byte) (t₂ := .byte) (by decide +kernel) (by decide +kernel) (by decide)
  have al := X8.warmed.alike.symm.trans X15.warmed.alike
  have n7 : T11.heap[s.heap.size]? = some N := by rw [q11]; exact n1.1
  exact ⟨T15, none, _, _, _, X15, by simp, rfl, by omega, (fun _ => rfl), ⟨rfl, _, N, bl15, ((Same.refl D _).set _ (by simp)).set _ (by simp), sl15, (Cell.slots_setSlot_ne _ ap).trans sl13, n1.keep al (p15.other hne (p13.other hne n7)), n2, by rw [al.findClass]; exact n3, n4, n5, fun y c h1 h2 => p15.other h1 (p13.other h1 (by rw [q11]; exact n6 y c h2)), by rw [p15.2.2, p13.2.2, q11]; exact z8⟩, fun fs hl => c16.trans (X15.returnOut hexec hret (hb hbytes d57) hl)⟩
end New4
namespace New1
def yN : MethodName := ⟨"java/lang/String", "<init>", "([C)V"⟩
abbrev yB : ByteArray := jdk_42_method_3_code
theorem d0 : decode yB 0 = .ok (.aload_n 0, 1) := by decide +kernel
theorem d1 : decode yB 1 = .ok (.aload_n 1, 1) := by decide +kernel
theorem d2 : decode yB 2 = .ok (.iconst 0, 1) := by decide +kernel
theorem d3 : decode yB 3 = .ok (.aload_n 1, 1) := by decide +kernel
theorem d4 : decode yB 4 = .ok (.arraylength, 1) := by decide +kernel
theorem d5 : decode yB 5 = .ok (.aconst_null, 1) := by decide +kernel
theorem d6 : decode yB 6 = .ok (.invokespecial 27, 3) := by decide +kernel
theorem d9 : decode yB 9 = .ok (.return_, 1) := by decide +kernel
def site : List Cond := [New4.tab] ++ initW "java/lang/String" 27 New4.yN
def tab : Cond := tabOf yN yB 2 none site
def P (a : Addr) (D : Cell) (fV fC : Field) (b : Addr) (A : Cell) (z : Int32) (args : Array Value) (s : State) : Prop := args = #[.ref a, .ref b] ∧ Blank "java/lang/String" a D s ∧ Found "java/lang/String" "value" "[B" fV s ∧ Found "java/lang/String" "coder" "B" fC s ∧ Ch b A s ∧ StaticIs s "java/lang/String" "COMPACT_STRINGS" "Z" (.int z) ∧ ¬ z = 0 ∧ 0 < A.slots.size ∧ A.slots.size ≤ 536870912 ∧ ∀ i, i < A.slots.size → ¬ 255 < cv A i
def E (a : Addr) (D : Cell) (fV fC : Field) (A : Cell) (r : Option Value) (s u : State) : Prop := Got a D fV fC A 0 A.slots.size r s u
/-- new String(chars), not empty, no char above 255: a Latin-1 String of their low bytes -/
theorem law (l : Launch) (a : Addr) (D : Cell) (fV fC : Field) (b : Addr) (A : Cell) (z : Int32) : Law l yN 2 1 3 52 yB 2 none site (P a D fV fC b A z) (E a D fV fC A) [⟨a, fC.slot⟩, ⟨a, fV.slot⟩] 1 A.slots.size := by
  refine Law.of_walk (plainFor_of_name (by decide +kernel)) (by decide +kernel) (by decide +kernel) (by decide) (fun _ _ h => by rw [h.1]; rfl) (fun _ U U' hal hh h => ⟨h.1, h.2.1.mv hal hh, h.2.2.1.al hal, h.2.2.2.1.al hal, h.2.2.2.2.1.mv hal hh, h.2.2.2.2.2.1.there hal hh, h.2.2.2.2.2.2⟩) (fun r U U' V V' h1 hal h2 h => Got.mv r U U' V V' h1 hal h2 h) ?_
  intro p e s m args below meth c s₁ X0 hexec hbytes hml hret hlk hnm hown hh0 W hP
  obtain ⟨rfl, hB, f1, f2, hA, s1, hz, l0, l2, hp⟩ := hP
  have c1 : Steps p.tables e below (s₁.setTop (entryFrame m #[.ref a, .ref b] 2)) (s₁.setTop (mkF m 0 #[.val (.ref a), .val (.ref b)] [])) := entry rfl
  have c2 : Steps p.tables e below (s₁.setTop (entryFrame m #[.ref a, .ref b] 2)) (s₁.setTop (mkF m 6 #[.val (.ref a), .val (.ref b)] [.null, .int (Int32.ofNat A.slots.size), .int 0, .ref b, .ref a])) := c1.trans (by
    refine XS.aloadN X0.here hexec rfl (hb hbytes d0) rfl rfl ?_
    refine XS.aloadN X0.here hexec rfl (hb hbytes d1) rfl rfl ?_
    refine iconstV X0.here hexec rfl 0 (hb hbytes d2) (by decide) ?_
    refine XS.aloadN X0.here hexec rfl (hb hbytes d3) rfl rfl ?_
    refine X0.alen hexec (hA.1.mv X0.warmed.alike hh0) rfl rfl (hb hbytes d4) ?_
    refine XS.aconstNull X0.here hexec rfl (hb hbytes d5) ?_
    exact Steps.refl _)
  obtain ⟨v3, T3, X3, E3, g3⟩ := X0.callN hexec (New4.law l a D fV fC b A z 0 A.slots.size) rfl hown (wks W (initW "java/lang/String" 27 New4.yN)) (W New4.tab (by simp only [site, List.mem_cons, List.mem_append, true_or, or_true])) (W := 0) (Nat.le_of_ble_eq_true rfl) (Nat.le_of_ble_eq_true rfl) (Nat.le_refl _) (by show 0 + A.slots.size ≤ A.slots.size; omega) (g := (mkF m 6 #[.val (.ref a), .val (.ref b)] [.null, .int (Int32.ofNat A.slots.size), .int (Int32.ofNat 0), .ref b, .ref a])) rfl (by rw [hml]; rfl) c2 (argsL := [.ref b, .int (Int32.ofNat 0), .int (Int32.ofNat A.slots.size), .null]) (rest := []) rfl rfl (by show 2 * 0 + 0 ≤ _; decide) (hb hbytes d6) (⟨rfl, hB.mv X0.warmed.alike hh0, f1.al X0.warmed.alike, f2.al X0.warmed.alike, hA.mv X0.warmed.alike hh0, s1.there X0.warmed.alike hh0, hz, l0, by omega, l2, fun i hi => by rw [Nat.zero_add]; exact hp i hi⟩)
  have e0 := Got.mv _ s₁ s _ _ hh0.symm (Vm.Alike.refl _) rfl E3
  obtain rfl := e0.1
  have c4 : Steps p.tables e below (s₁.setTop (entryFrame m #[.ref a, .ref b] 2)) (T3.setTop (mkF m 9 #[.val (.ref a), .val (.ref b)] [])) := g3
  exact ⟨T3, none, _, _, _, X3, by simp, rfl, by omega, (fun _ => rfl), e0, fun fs hl => c4.trans (X3.returnOut hexec hret (hb hbytes d9) hl)⟩
theorem pays {l : Launch} {R : Room} {p : Program} {e : Env} {below : List Frame} {s : State} {sargs : Array Value} {len W : Nat} (a : Addr) (D : Cell) (fV fC : Field) (b : Addr) (A : Cell) (z : Int32) (htab : tab.before sargs s = true) (hfr : 4 ≤ R.frames) (hlo : W + 65 ≤ R.locals) :
    Back l R p e below s sargs yN len W (fun A₁ a₁ => A₁.cells + 1 ≤ R.cells ∧ A₁.slots + A.slots.size ≤ R.slots ∧ P a D fV fC b A z a₁ A₁.U) (fun A₁ _ v₁ B₁ => E a D fV fC A v₁ A₁.U B₁.U ∧ B₁.locs = A₁.locs ++ [⟨a, fC.slot⟩, ⟨a, fV.slot⟩] ∧ B₁.cells = A₁.cells + 1 ∧ B₁.slots = A₁.slots + A.slots.size) :=
  (law l a D fV fC b A z).pays htab hfr (by omega)
end New1
end StrChars
namespace StrChars.Road
open Jvm Sem ClassFile Op Lib Jvm.Stand Jvm.Free Jvm.Free.XT
open Jvm.Lib.Cold (StaticIs)
abbrev ST : String := "java/lang/String"
/-- every table word that New1's law asks, flat -/
abbrev words : List Jvm.Cond := [.code New1.yN New1.yB 2 none, .initialized ST, .methodLink ST 27 New4.yN, .instanceMethod New4.yN,
  .code New4.yN New4.yB 6 none, .fieldLink ST 38 ST "COMPACT_STRINGS" "Z", .laysFinal ST ST "value" "[B", .fieldLink ST 9 ST "value" "[B", .laysFinal ST ST "coder" "B", .fieldLink ST 15 ST "coder" "B",
  .methodLink ST 1 Lib.objectInit, .instanceMethod Lib.objectInit, .code Lib.objectInit ⟨#[0xb1]⟩ 1 none, .methodLink ST 177 Cmp3.yN, .static Cmp3.yN, .methodLink ST 47 CodL.yN, .static CodL.yN,
  .code Cmp3.yN Cmp3.yB 6 (some (.array .byte)), .initialized U16, .arrayClass .byte, .methodLink U16 115 Cmp5.yN, .static Cmp5.yN, .code Cmp5.yN Cmp5.yB 7 (some .int), .code CodL.yN CodL.yB 2 (some .byte)]
theorem tab_of {a : Array Value} {s : State} (h : ∀ w ∈ words, w.before a s = true) : New1.tab.before a s = true := by
  have h5 : Cmp5.tab.before a s = true := unparts (wk h (.code Cmp5.yN Cmp5.yB 7 (some .int))) (wks h (.initialized Cmp5.yN.cls :: Cmp5.site))
  have hc : CodL.tab.before a s = true := unparts (wk h (.code CodL.yN CodL.yB 2 (some .byte))) (wks h (.initialized CodL.yN.cls :: CodL.site))
  have q5 : ∀ w ∈ Cmp5.tab :: words, w.before a s = true := fun w hw => (List.mem_cons.mp hw).elim (fun e => e ▸ h5) (h w)
  have h3 : Cmp3.tab.before a s = true := unparts (wk q5 (.code Cmp3.yN Cmp3.yB 6 (some (.array .byte)))) (wks q5 (.initialized Cmp3.yN.cls :: Cmp3.site))
  have q3 : ∀ w ∈ Cmp3.tab :: CodL.tab :: words, w.before a s = true := fun w hw => (List.mem_cons.mp hw).elim (fun e => e ▸ h3) fun hw => (List.mem_cons.mp hw).elim (fun e => e ▸ hc) (h w)
  have h4 : New4.tab.before a s = true := unparts (wk q3 (.code New4.yN New4.yB 6 none)) (wks q3 (.initialized New4.yN.cls :: New4.site))
  have q4 : ∀ w ∈ New4.tab :: words, w.before a s = true := fun w hw => (List.mem_cons.mp hw).elim (fun e => e ▸ h4) (h w)
  exact unparts (wk q4 (.code New1.yN New1.yB 2 none)) (wks q4 (.initialized New1.yN.cls :: New1.site))
/-- the words ride from the start Z to the walk's own state -/
theorem moved {Z s : State} {a0 args : Array Value} (hZ : Z.Warmed39 s.vm) (hw : ∀ d ∈ words, d.before a0 Z = true) : ∀ d ∈ words, d.before args s = true := fun d hd => by
  have q := hw d hd
  have t : ∀ d ∈ words, d = .arrayClass .byte ∨ (d.onTables && d.keepsFace) = true := by decide +kernel
  rcases t d hd with rfl | t
  · exact RoadKit.mvA hZ q
  · exact RoadKit.mv hZ q t
/-- WHAT COMES BACK, over the tables of the start Z: h the heap at the call, h' behind it -/
def Q (Z : State) (x : Addr) (A : Cell) (h : Heap) (v : Option Value) (h' : Heap) (L : List Loc) : Prop := v = none ∧ (∀ y ∈ L, y.base = x) ∧ RoadKit.Keep h h' [x] ∧ h'.size = h.size + 1 ∧ RoadKit.Exa Z h' x ST ∧ RoadKit.Fld Z h' x ST "value" "[B" (.ref h.size) ∧ RoadKit.Fld Z h' x ST "coder" "B" (.int 0) ∧
  (∃ V : Cell, RoadKit.Arr Z h' h.size V .byte ∧ V.vm = .none ∧ Z.vm.findClass "[B" = some V.cls ∧ V.slots.size = A.slots.size ∧ ∀ j, j < A.slots.size → V.slots[j]? = some (.int (lo8 (cv A j)))) ∧
  ∀ (O n d : String) (w : Value), RoadKit.Fld Z h x O n d w → RoadKit.slotOf Z O n d ≠ RoadKit.slotOf Z ST "value" "[B" → RoadKit.slotOf Z O n d ≠ RoadKit.slotOf Z ST "coder" "B" → RoadKit.Fld Z h' x O n d w
/-- **new String(chars) AT A CALL, IN THE ROAD'S FORM**: for specialBack behind newO: x the fresh String, b the char[] with the cell A -/
theorem back {p : Program} {l : Launch} {e : Env} {R : Room} {s : State} {args : Array Value} {below : List Frame} {len W : Nat} {Z : State} {a0 : Array Value} {h : Heap} (hZ : Z.Warmed39 s.vm) (hw : ∀ d ∈ words, d.before a0 Z = true) {kI : Nat} (wi : (Jvm.Cond.instantiable ST kI).before a0 Z = true)
    {x b : Addr} {A : Cell} {z : Int32} {v0 c0 : Value} (E : RoadKit.Exa Z h x ST) (V : RoadKit.Fld Z h x ST "value" "[B" v0) (C : RoadKit.Fld Z h x ST "coder" "B" c0) (K : RoadKit.Arr Z h b A .char) (hty : Typed .char A) (S : RoadKit.Sta Z h ST "COMPACT_STRINGS" "Z" (.int z)) (hz : ¬ z = 0)
    (l0 : 0 < A.slots.size) (l2 : A.slots.size ≤ 536870912) (hp : ∀ i, i < A.slots.size → ¬ 255 < cv A i) (hfr : 4 ≤ R.frames) (hlo : W + 65 ≤ R.locals) :
    Back l R p e below s args New1.yN len W (fun P a => a = #[.ref x, .ref b] ∧ P.U.heap = h ∧ P.cells + 1 ≤ R.cells ∧ P.slots + A.slots.size ≤ R.slots)
      (fun P _ v B => ∃ L, Q Z x A h v B.U.heap L ∧ B.locs = P.locs ++ L ∧ B.cells = P.cells + 1 ∧ B.slots = P.slots + A.slots.size) := by
  intro m meth c P g ig mk a X hg hsize hdg hW hn hp'
  obtain ⟨rfl, rfl, r1, r2⟩ := hp'
  have al : Z.vm.Alike P.U.vm := hZ.alike.trans X.warmed.alike
  obtain ⟨D, cfV, kV, iV, fV, hD, gV, stV, knV, obV, asV, slV⟩ := id V
  obtain ⟨D', cfC, kC, iC, fC, hD', gC, stC, -, -, asC, slC⟩ := id C
  cases hD.symm.trans hD'
  obtain ⟨D2, kD, e1, e2, e3, e4, e5⟩ := id E
  cases hD.symm.trans e1
  obtain ⟨c2, k2, i1, i2, i3, -⟩ := Cond.instantiable_spec wi
  cases e2.symm.trans i1
  cases e3.symm.trans i2
  obtain ⟨kU, u1, u2⟩ := al.2.2 _ _ e3
  have hB : Blank ST x D P.U := ⟨hD, ⟨knV, fun q hq => by rw [hq] at obV; cases obV⟩, by rw [al.findClass]; exact e2, kU, u1, by rw [u2]; exact i3, by rw [u2]; exact e5 i3⟩
  have F1 : Found ST "value" "[B" fV P.U := ⟨SBG.found_only al ⟨cfV, kV, iV, gV⟩, stV⟩
  have F2 : Found ST "coder" "B" fC P.U := ⟨SBG.found_only al ⟨cfC, kC, iC, gC⟩, stC⟩
  have hA : Ch b A P.U := ⟨⟨K.1, State.isArrayOf_alike al K.2.1, K.2.2, by omega⟩, hty⟩
  have hS : StaticIs P.U ST "COMPACT_STRINGS" "Z" (.int z) := by
    obtain ⟨cfS, iS, kS, fS, st, cS, t1, t2, t3, t4, t5, t6, t7⟩ := S
    exact StaticIs.there (s := { Z with heap := P.U.heap }) ⟨cfS, iS, kS, fS, st, cS, t1, t2, t3, t4, t5, (fun q => by rw [q] at t6; cases t6), t7⟩ al rfl
  obtain ⟨v, B, X', ⟨⟨hv, E', V', q1, q2, q3, q4, q5, q6, q7, q8, q9, q10, q11⟩, hl, hc, hs⟩, st⟩ := New1.pays x D fV fC b A z (tab_of (moved hZ hw)) hfr hlo m meth c P g ig mk _ X hg hsize hdg hW hn ⟨r1, r2, rfl, hB, F1, F2, hA, hS, hz, l0, l2, hp⟩
  have al' : Z.vm.Alike B.U.vm := hZ.alike.trans X'.warmed.alike
  have hsz : E'.slots.size = D.slots.size := by
    obtain ⟨-, -, -, kB, w1, w2, w3⟩ := q1
    obtain ⟨kB', y1, y2⟩ := al'.2.2 _ _ e3
    rw [q2.2.1] at w1
    cases w1.symm.trans y1
    rw [w3, e5 i3, y2]
  refine ⟨v, B, X', ⟨_, ⟨hv, ?_, ⟨by omega, fun y cy hy hn' => q10 y cy (by simpa using hn') hy, fun y cy hy => ?_⟩, q11, ⟨E', _, q1.1, by rw [q2.2.1]; exact e2, by rw [q2.2.1]; exact e3, by rw [q2.1]; exact obV, fun _ => by rw [hsz]; exact e5 i3⟩,
    ⟨E', cfV, kV, iV, fV, q1.1, gV, stV, by rw [q2.1]; exact knV, by rw [q2.1]; exact obV, by rw [q2.2.1]; exact asV, q3⟩, ⟨E', cfC, kC, iC, fC, q1.1, gC, stC, by rw [q2.1]; exact knV, by rw [q2.1]; exact obV, by rw [q2.2.1]; exact asC, q4⟩,
    ⟨V', ⟨q5.1, State.isArrayOf_alike al'.symm q5.2.1, q5.2.2.1⟩, q6, by rw [← al'.findClass]; exact q7, q8, fun j hj => by have := q9 j hj; rwa [Nat.zero_add] at this⟩, fun O n d w F n1 n2 => ?_⟩, hl, hc, hs⟩, st⟩
  · intro y hy
    simp only [List.mem_cons, List.not_mem_nil, or_false] at hy
    rcases hy with rfl | rfl <;> rfl
  · by_cases q : y = x
    · subst q
      cases hD.symm.trans hy
      exact ⟨E', q1.1, q2.2.1, q2.1, hsz⟩
    · exact ⟨cy, q10 y cy q hy, rfl, rfl, rfl⟩
  · obtain ⟨D3, cf, k, i, f, g1, g2, g3, g4, g5, g6, g7⟩ := F
    cases hD.symm.trans g1
    simp only [RoadKit.slotOf, g2, gV, gC, Option.map_some, Option.getD_some] at n1 n2
    exact ⟨E', cf, k, i, f, q1.1, g2, g3, by rw [q2.1]; exact g4, by rw [q2.1]; exact g5, by rw [q2.2.1]; exact g6, by rw [q2.2.2 f.slot (by simp [n1, n2])]; exact g7⟩
end StrChars.Road
namespace StrChars.Road
open Jvm Sem ClassFile Op Lib Jvm.Stand Jvm.Free Jvm.Free.XT
/-- WHAT COMES BACK, the byte[] as a list of values -/
def QA (Z : State) (x : Addr) (zn : Int32) (cs : List Int32) (h : Heap) (v : Option Value) (h' : Heap) (L : List Loc) : Prop := v = none ∧ (∀ y ∈ L, y.base = x) ∧ RoadKit.Keep h h' [x] ∧ h'.size = h.size + 1 ∧ RoadKit.Exa Z h' x ST ∧ RoadKit.Fld Z h' x ST "value" "[B" (.ref h.size) ∧ RoadKit.Fld Z h' x ST "coder" "B" (.int 0) ∧
  (∃ kb, Z.vm.findClass "[B" = some kb ∧ RoadKit.Arv Z h' h.size kb .byte zn (cs.map fun c => .int (lo8 c)) (.int 0)) ∧
  ∀ (O n d : String) (w : Value), RoadKit.Fld Z h x O n d w → RoadKit.slotOf Z O n d ≠ RoadKit.slotOf Z ST "value" "[B" → RoadKit.slotOf Z O n d ≠ RoadKit.slotOf Z ST "coder" "B" → RoadKit.Fld Z h' x O n d w
/-- **new String(chars) AT A CALL, THE ARRAYS AS LISTS**: the char[] at b holds cs, not empty, no char above 255 -/
theorem backArv {p : Program} {l : Launch} {e : Env} {R : Room} {s : State} {args : Array Value} {below : List Frame} {len W : Nat} {Z : State} {a0 : Array Value} {h : Heap} (hZ : Z.Warmed39 s.vm) (hw : ∀ d ∈ words, d.before a0 Z = true) {kI : Nat} (wi : (Jvm.Cond.instantiable ST kI).before a0 Z = true)
    {x b : Addr} {k : ClassId} {zn z : Int32} {cs : List Int32} {dv v0 c0 : Value} (E : RoadKit.Exa Z h x ST) (V : RoadKit.Fld Z h x ST "value" "[B" v0) (C : RoadKit.Fld Z h x ST "coder" "B" c0) (K : RoadKit.Arv Z h b k .char zn (cs.map Value.int) dv) (S : RoadKit.Sta Z h ST "COMPACT_STRINGS" "Z" (.int z)) (hz : ¬ z = 0)
    (hlen : zn.toNatClampNeg = cs.length) (h0 : 0 < cs.length) (hbig : cs.length ≤ 536870912) (hall : ∀ c ∈ cs, ¬ 255 < c) (hfr : 4 ≤ R.frames) (hlo : W + 65 ≤ R.locals) :
    Back l R p e below s args New1.yN len W (fun P a => a = #[.ref x, .ref b] ∧ P.U.heap = h ∧ P.cells + 1 ≤ R.cells ∧ P.slots + cs.length ≤ R.slots)
      (fun P _ v B => ∃ L, QA Z x zn cs h v B.U.heap L ∧ B.locs = P.locs ++ L ∧ B.cells = P.cells + 1 ∧ B.slots = P.slots + cs.length) := by
  obtain ⟨A, K1, K2, K3, K4, K5, K6⟩ := K
  have e : A.slots.size = cs.length := K3.trans hlen
  have hat : ∀ (i : Nat) (hi : i < cs.length), A.slots[i]? = some (.int cs[i]) := fun i hi => by rw [K5 i (by omega)]; simp [List.getD_eq_getElem?_getD, hi]
  have hcv : ∀ (i : Nat) (hi : i < cs.length), cv A i = cs[i] := fun i hi => by unfold cv; rw [hat i hi]
  have hty : Typed .char A := fun i v hv => by
    have hi : i < A.slots.size := (Array.getElem?_eq_some_iff.mp hv).1
    have q := K5 i hi
    rw [hv] at q
    rw [Option.some.inj q]
    exact K6 i hi
  refine Back.mono (back hZ hw wi E V C K1 hty S hz (by omega) (by omega) (fun i hi => by rw [hcv i (by omega)]; exact hall _ (List.getElem_mem _)) hfr hlo) (fun P a hp => ⟨hp.1, hp.2.1, hp.2.2.1, by rw [e]; exact hp.2.2.2⟩) (fun P a v B hp hq => ?_)
  obtain ⟨L, ⟨q1, q2, q3, q4, q5, q6, q7, ⟨V', v1, v2, v3, v4, v5⟩, q9⟩, hl, hc, hs⟩ := hq
  refine ⟨L, ⟨q1, q2, q3, q4, q5, q6, q7, ⟨V'.cls, v3, V', v1, rfl, by rw [v4, e, hlen], K4, fun i hi => ?_, fun i hi => ?_⟩, q9⟩, hl, hc, by rw [hs, e]⟩
  · have hi' : i < cs.length := by omega
    rw [v5 i (by omega), hcv i hi']; simp [List.getD_eq_getElem?_getD, hi']
  · have hi' : i < cs.length := by omega
    simp only [List.getD_eq_getElem?_getD, List.getElem?_map, List.getElem?_eq_getElem hi', Option.map_some, Option.getD_some]
    exact fits_lo8 _
end StrChars.Road
namespace StrChars.Road
open Jvm Sem ClassFile Op Lib Jvm.Stand Jvm.Free Jvm.Free.XT
/-- WHAT COMES BACK, in the writer's own shape -/
def QV (Z : State) (x : Addr) (N : Int32) (bs : List Int32) (h : Heap) (n0 : Nat) (v : Option Value) (h' : Heap) (L : List Loc) : Prop := v = none ∧ RoadKit.Fr n0 L ∧ RoadKit.Keep h h' [x] ∧ RoadKit.Exa Z h' x ST ∧ RoadKit.Fld Z h' x ST "coder" "B" (.int 0) ∧
  ∃ (t : Addr) (kb : ClassId), n0 ≤ t ∧ h.size ≤ t ∧ ¬ t = x ∧ RoadKit.Fld Z h' x ST "value" "[B" (.ref t) ∧ RoadKit.Arv Z h' t kb .byte N (bs.map Value.int) (.int 0)
/-- **new String(chars) AT A CALL, FOR THE WRITER**: a char[] of n known ints, each 0 to 255 -/
theorem backV {p : Program} {l : Launch} {e : Env} {R : Room} {s : State} {args : Array Value} {below : List Frame} {len W : Nat} {Z : State} {a0 : Array Value} {h : Heap} (hZ : Z.Warmed39 s.vm) (hw : ∀ d ∈ words, d.before a0 Z = true) {kI : Nat} (wi : (Jvm.Cond.instantiable ST kI).before a0 Z = true)
    {x b : Addr} {kC : ClassId} {cs bs : List Int32} {d v0 c0 : Value} {z N : Int32} {n n0 : Nat} (hx0 : n0 ≤ x) (hh0 : n0 ≤ h.size) (E : RoadKit.Exa Z h x ST) (V : RoadKit.Fld Z h x ST "value" "[B" v0) (C : RoadKit.Fld Z h x ST "coder" "B" c0) (K : RoadKit.Arv Z h b kC .char N (cs.map Value.int) d) (S : RoadKit.Sta Z h ST "COMPACT_STRINGS" "Z" (.int z)) (hz : ¬ z = 0)
    (hn : cs.length = n) (hN : N = Int32.ofNat n) (l0 : 0 < n) (l2 : n ≤ 4000) (hp : ∀ c ∈ cs, ¬ c < 0 ∧ ¬ (255 : Int32) < c) (hb : bs = cs.map (fun c => c.toInt8.toInt32)) (hfr : 4 ≤ R.frames) (hlo : W + 65 ≤ R.locals) :
    Back l R p e below s args (⟨"java/lang/String", "<init>", "([C)V"⟩ : MethodName) len W (fun P a => a = #[.ref x, .ref b] ∧ P.U.heap = h ∧ P.cells + 1 ≤ R.cells ∧ P.slots + n ≤ R.slots)
      (fun P _ v B => ∃ L, QV Z x N bs h n0 v B.U.heap L ∧ B.locs = P.locs ++ L ∧ B.cells = P.cells + 1 ∧ B.slots = P.slots + n) := by
  subst hn hN hb
  refine Back.mono (backArv hZ hw wi E V C K S hz (n32 (by omega)) l0 (by omega) (fun c hc => (hp c hc).2) hfr hlo) (fun P a hp => hp) (fun P a v B hp hq => ?_)
  obtain ⟨L, ⟨q1, q2, q3, q4, q5, q6, q7, ⟨kb, v1, v2⟩, q9⟩, hl, hc, hs⟩ := hq
  exact ⟨L, ⟨q1, fun y hy => by rw [q2 y hy]; exact hx0, q3, q5, q7, h.size, kb, hh0, Nat.le_refl _, Nat.ne_of_gt E.lt, q6, by rw [List.map_map]; exact v2⟩, hl, hc, hs⟩
end StrChars.Road
end Jvm.Pilot.@@N@@

namespace Jvm.Pilot.@@N@@
open Jvm Jvm.ClassFile Sem Op Lib Jvm.Free Jvm.Stand Jvm.LawKit Jvm.RoadKit Bundle Jvm.Pilot.@@N@@.Jvm.D
/-- the run from U comes to a return whose value, heap and written places Q takes; it has made at most kc cells of ks slots -/
def own_Go (p : Program) (e : Env) (below : List Frame) (s : State) (Q : Option Value → Heap → List Loc → Prop) (kc ks : Nat) (U : State) : Prop :=
  ∃ t o, Steps p.tables e below U t ∧ t.status = .running ∧ Ended t below o ∧ ∃ v L, o = .returned v ∧ Q v t.heap L ∧ FrameEnd s o t L kc ks
section OwnKit
variable {p : Program} {l : Launch} {e : Env} {R : Room} {s : State} {m : MethodId} {args : Array Value} {below : List Frame} {meth : Method} {c : Code} {T : State} {locs : List Loc} {cells slots kc ks : Nat} {Z : State} {a0 : Array Value} {h : Heap} {Q : Option Value → Heap → List Loc → Prop}
theorem own_go {U U' : State} (f : ∀ t, Steps p.tables e below U' t → Steps p.tables e below U t) (g : own_Go p e below s Q kc ks U') : own_Go p e below s Q kc ks U := by
  obtain ⟨t, o, a, r⟩ := g
  exact ⟨t, o, f t a, r⟩
theorem own_end (X : Stand p l e R s m args below meth c T locs cells slots) (hlk : meth.locks = false) (eT : T.heap = h) {v : Option Value} (hv : meth.sig.returnType = none → v = none) (hc : cells ≤ kc) (hs : slots ≤ ks) (hq : Q v h locs) {U : State}
    (hst : ∀ fs, (∀ (f : JFrame) (acts : List Action), f.method = m → f.locked = none → f.entered = [] → (doReturn e (T.setTop f) acts v).1 = T.setFrames fs) → Steps p.tables e below U (T.setFrames fs)) : own_Go p e below s Q kc ks U := by
  obtain ⟨fs, hr, hrun, hended, hW, hsame⟩ := X.leave (v := v) hv hlk
  refine ⟨_, _, hst fs hr, hrun, hended, v, locs, rfl, ?_, ⟨v, rfl⟩, hW, hsame.mono hc hs⟩
  show Q v T.heap locs
  rw [eT]; exact hq
theorem own_retN (X : Stand p l e R s m args below meth c T locs cells slots) (hx : p.tables.exec = Jvm.exec) (hlk : meth.locks = false) (eT : T.heap = h) {pc : Nat} {Ls : Array Slot} {z : Int32} {t : FieldType} {rest : List Value} (hret : meth.sig.returnType = some t) (ht : t = .boolean ∨ t = .byte ∨ t = .char ∨ t = .short)
    (hd : decode c.code pc = .ok (.ireturn, 1)) (hc : cells ≤ kc) (hs : slots ≤ ks) (hq : Q (some (.int (nar t z))) h locs) : own_Go p e below s Q kc ks (T.setTop (mkF m pc Ls (.int z :: rest))) :=
  own_end X hlk eT (fun q => by rw [hret] at q; cases q) hc hs hq fun fs hr => retN X hx hret ht hd hr
theorem own_retI (X : Stand p l e R s m args below meth c T locs cells slots) (hx : p.tables.exec = Jvm.exec) (hlk : meth.locks = false) (eT : T.heap = h) {pc : Nat} {Ls : Array Slot} {z : Int32} {rest : List Value} (hret : meth.sig.returnType = some .int)
    (hd : decode c.code pc = .ok (.ireturn, 1)) (hc : cells ≤ kc) (hs : slots ≤ ks) (hq : Q (some (.int z)) h locs) : own_Go p e below s Q kc ks (T.setTop (mkF m pc Ls (.int z :: rest))) :=
  own_end X hlk eT (fun q => by rw [hret] at q; cases q) hc hs hq fun fs hr => retOut X hx hret rfl (Or.inl ⟨rfl, Or.inl rfl, z, rfl⟩) hd hr
theorem own_retJ (X : Stand p l e R s m args below meth c T locs cells slots) (hx : p.tables.exec = Jvm.exec) (hlk : meth.locks = false) (eT : T.heap = h) {pc : Nat} {Ls : Array Slot} {z : Int64} {rest : List Value} (hret : meth.sig.returnType = some .long)
    (hd : decode c.code pc = .ok (.lreturn, 1)) (hc : cells ≤ kc) (hs : slots ≤ ks) (hq : Q (some (.long z)) h locs) : own_Go p e below s Q kc ks (T.setTop (mkF m pc Ls (.long z :: rest))) :=
  own_end X hlk eT (fun q => by rw [hret] at q; cases q) hc hs hq fun fs hr => retOut X hx hret rfl (Or.inr (Or.inl ⟨rfl, rfl, z, rfl⟩)) hd hr
theorem own_retA (X : Stand p l e R s m args below meth c T locs cells slots) (hx : p.tables.exec = Jvm.exec) (hlk : meth.locks = false) (eT : T.heap = h) {pc : Nat} {Ls : Array Slot} {v : Value} {t : FieldType} {rest : List Value} (hret : meth.sig.returnType = some t) (ht : t.isReference = true) (hv : v.isRef = true)
    (hd : decode c.code pc = .ok (.areturn, 1)) (hc : cells ≤ kc) (hs : slots ≤ ks) (hq : Q (some v) h locs) : own_Go p e below s Q kc ks (T.setTop (mkF m pc Ls (v :: rest))) :=
  own_end X hlk eT (fun q => by rw [hret] at q; cases q) hc hs hq fun fs hr => retOut X hx hret (by cases t <;> first | (cases ht; done) | (rcases ref_cases hv with rfl | ⟨_, rfl⟩ <;> rfl)) (Or.inr (Or.inr (Or.inr (Or.inr ⟨rfl, ht, hv⟩)))) hd hr
theorem own_retV (X : Stand p l e R s m args below meth c T locs cells slots) (hx : p.tables.exec = Jvm.exec) (hlk : meth.locks = false) (eT : T.heap = h) {pc : Nat} {Ls : Array Slot} (hret : meth.sig.returnType = none)
    (hd : decode c.code pc = .ok (.return_, 1)) (hc : cells ≤ kc) (hs : slots ≤ ks) (hq : Q none h locs) : own_Go p e below s Q kc ks (T.setTop (mkF m pc Ls [])) :=
  own_end X hlk eT (fun _ => rfl) hc hs hq fun fs hr => X.returnOut hx hret hd hr
/-- a body's contract out of its walk -/
theorem own_met {y : MethodName} {bytes : ByteArray} {maxL : Nat} {ret : Option FieldType} {ws : List Jvm.Cond} {rm : Room} {as' : Array Value} (kc ks : Nat) (hpl : plainFor y = true)
    (body : ∀ (p : Program) (e : Env) (s : State) (m : MethodId) (below : List Frame) (meth : Method) (c : Code) (T : State), Stand p l e rm s m as' below meth c T [] 0 0 → p.tables.exec = Jvm.exec → c.code = bytes → c.maxLocals = maxL → meth.sig.returnType = ret → meth.locks = false → Z.Warmed39 s.vm → s.vm.findClass y.cls = some m.cls → meth.name = y.name → T.heap = h →
      own_Go p e below s Q kc ks (T.setTop (entryFrame m as' maxL))) :
    MetFree l y (head1 (Jvm.Cond.code y bytes maxL ret :: ws) rm) (fun a U => a = as' ∧ Z.Warmed39 U.vm ∧ U.heap = h) (fun _ _ _ _ _ => True) (fun _ U o U' => ∃ v L, o = .returned v ∧ Q v U'.heap L ∧ FrameEnd U o U' L kc ks) := by
  refine MetFree.of_bodySF hpl hisR ?_
  intro p e s m args below meth c s₁ Bd hml hP hK
  obtain ⟨rfl, hZ, hh⟩ := hP
  obtain ⟨t, o, h1, h2, h3, h4⟩ := body p e s m below meth c s₁ (Stand.of_body Bd) Bd.exec Bd.bytes hml Bd.returns Bd.notSynchronized hZ (findClass_of_methodNamed Bd.named) (name_of_methodNamed Bd.named Bd.method).1 (by rw [← hh, Bd.state]; rfl)
  exact ⟨t, o, h1, h2, h3, h4⟩
abbrev own_Met (l : Launch) (Z : State) (h : Heap) (y : MethodName) (bytes : ByteArray) (maxL : Nat) (ret : Option FieldType) (rm : Room) (as' : Array Value) (Q : Option Value → Heap → List Loc → Prop) : Prop :=
  MetFree l y (head1 [Jvm.Cond.code y bytes maxL ret] rm) (fun a U => a = as' ∧ Z.Warmed39 U.vm ∧ U.heap = h) (fun _ _ _ _ _ => True) (fun _ U o U' => ∃ v L, o = .returned v ∧ Q v U'.heap L ∧ FrameEnd U o U' L rm.cells rm.slots)
abbrev own_MF (l : Launch) (Z : State) (h : Heap) (y : MethodName) (bytes : ByteArray) (maxL : Nat) (ret : Option FieldType) (rm : Room) (as' : Array Value) (Q : Option Value → Heap → List Loc → Prop) (ws : List Jvm.Cond) : Prop :=
  MetFree l y (head1 (Jvm.Cond.code y bytes maxL ret :: ws) rm) (fun a U => a = as' ∧ Z.Warmed39 U.vm ∧ U.heap = h) (fun _ _ _ _ _ => True) (fun _ U o U' => ∃ v L, o = .returned v ∧ Q v U'.heap L ∧ FrameEnd U o U' L rm.cells rm.slots)
theorem own_callS {y : MethodName} {bytes : ByteArray} {maxL : Nat} {ret : Option FieldType} {rm : Room} {as' : Array Value} {own : String} {index : Nat} (X : Stand p l e R s m args below meth c T locs cells slots) (hx : p.tables.exec = Jvm.exec) (hZ : Z.Warmed39 s.vm) (hown : s.vm.findClass own = some m.cls)
    (w1 : (Jvm.Cond.methodLink own index y).before a0 Z = true) (w2 : (Jvm.Cond.static y).before a0 Z = true) (w3 : (Jvm.Cond.initialized y.cls).before a0 Z = true) (w4 : (Jvm.Cond.code y bytes maxL ret).before a0 Z = true) (hM : own_Met l Z h y bytes maxL ret rm as' Q) (W : Nat) (nc ns : Nat) 
    (hc : cells + nc ≤ R.cells) (hs : slots + ns ≤ R.slots) (eT : T.heap = h) {g : JFrame} (hg : g.method = m) (hsize : g.locals.size = c.maxLocals)
    (argsL rest : List Value) (hlen : ∀ sig, parseMethodDescriptor y.desc = some sig → argsL.length = sig.parameters.length) (hstack : g.stack = argsL.reverse ++ rest) (has : argsL.toArray = as') (hdg : decode c.code g.pc = .ok (.invokestatic index, 3))
    (hy : y.cls ≠ "java/lang/invoke/MethodHandle" ∧ y.cls ≠ "java/lang/invoke/VarHandle" := by decide) (hf : rm.frames + 1 ≤ R.frames := by decide) (hl : W + (maxL + 11) + rm.locals ≤ R.locals := by decide) (hW : 2 * g.monitorRoom + (rest.map fun v => v.category).sum ≤ W := by exact Nat.le_of_eq rfl) (hnc : rm.cells = nc := by rfl) (hns : rm.slots = ns := by rfl) :
    ∃ v T' L, Stand p l e R s m args below meth c T' (locs ++ L) (cells + nc) (slots + ns) ∧ Q v T'.heap L ∧ ∀ target, Steps p.tables e below (T'.setTop { g with pc := g.pc + 3, stack := v.toList ++ rest }) target → Steps p.tables e below (T.setTop g) target := by
  subst hnc hns
  obtain ⟨v, _, ⟨T', L', k', n'⟩, -, X', ⟨L, hQ, h1, h2, h3⟩, st⟩ := Jvm.LawKit.callS X hx hown (mvT hZ w1) (mvT hZ w2) (mvT hZ w3) (mvT hZ w4) hy (backOf (W := W) hM hZ w4 w3 hf hl) hg hsize hlen hstack hW hdg (fun _ _ => ⟨has, eT, hc, hs⟩)
  dsimp only [Pt.U, Pt.locs, Pt.cells, Pt.slots] at X' hQ h1 h2 h3 st
  subst h1 h2 h3
  exact ⟨v, T', L, X', hQ, st⟩
theorem own_callI {y : MethodName} {bytes : ByteArray} {maxL : Nat} {rm : Room} {as' : Array Value} {own : String} {index : Nat} (X : Stand p l e R s m args below meth c T locs cells slots) (hx : p.tables.exec = Jvm.exec) (hZ : Z.Warmed39 s.vm) (hown : s.vm.findClass own = some m.cls)
    (w1 : (Jvm.Cond.methodLink own index y).before a0 Z = true) (w2 : (Jvm.Cond.instanceMethod y).before a0 Z = true) (w3 : (Jvm.Cond.initialized y.cls).before a0 Z = true) (w4 : (Jvm.Cond.code y bytes maxL none).before a0 Z = true) (hM : own_Met l Z h y bytes maxL none rm as' Q) (W : Nat) (nc ns : Nat) (hy1 : y.name = "<init>")
    (hc : cells + nc ≤ R.cells) (hs : slots + ns ≤ R.slots) (eT : T.heap = h) {g : JFrame} (hg : g.method = m) (hsize : g.locals.size = c.maxLocals)
    (a : Addr) (argsL rest : List Value) (hlen : ∀ sig, parseMethodDescriptor y.desc = some sig → argsL.length = sig.parameters.length) (hstack : g.stack = argsL.reverse ++ .ref a :: rest) (has : (Value.ref a :: argsL).toArray = as') (hdg : decode c.code g.pc = .ok (.invokespecial index, 3))
    (hy : y.cls ≠ "java/lang/invoke/MethodHandle" ∧ y.cls ≠ "java/lang/invoke/VarHandle" := by decide) (hf : rm.frames + 1 ≤ R.frames := by decide) (hl : W + (maxL + 11) + rm.locals ≤ R.locals := by decide) (hW : 2 * g.monitorRoom + (rest.map fun v => v.category).sum ≤ W := by exact Nat.le_of_eq rfl) (hnc : rm.cells = nc := by rfl) (hns : rm.slots = ns := by rfl) :
    ∃ v T' L, Stand p l e R s m args below meth c T' (locs ++ L) (cells + nc) (slots + ns) ∧ Q v T'.heap L ∧ ∀ target, Steps p.tables e below (T'.setTop { g with pc := g.pc + 3, stack := v.toList ++ rest }) target → Steps p.tables e below (T.setTop g) target := by
  subst hnc hns
  obtain ⟨v, _, ⟨T', L', k', n'⟩, -, X', ⟨L, hQ, h1, h2, h3⟩, st⟩ := X.specialBack hx hy1 hown (mvT hZ w1) (mvT hZ w2) (mvT hZ w4) hy (backOf (W := W) hM hZ w4 w3 hf hl) hg hsize (Steps.refl _) (a := a) (argsL := argsL) (rest := rest) hlen hstack hW hdg (fun _ _ => ⟨has, eT, hc, hs⟩)
  dsimp only [Pt.U, Pt.locs, Pt.cells, Pt.slots] at X' hQ h1 h2 h3 st
  subst h1 h2 h3
  exact ⟨v, T', L, X', hQ, fun _ k => st.trans k⟩
theorem own_callV {y z : MethodName} {bytes : ByteArray} {maxL : Nat} {ret : Option FieldType} {rm : Room} {as' : Array Value} {own C : String} {index : Nat} (X : Stand p l e R s m args below meth c T locs cells slots) (hx : p.tables.exec = Jvm.exec) (hZ : Z.Warmed39 s.vm) (hown : s.vm.findClass own = some m.cls)
    (w1 : (Jvm.Cond.methodLink own index y).before a0 Z = true) (wd : (Jvm.Cond.declares y).before a0 Z = true) (nf : NotFace s y) (wsel : (Jvm.Cond.selects C y z).before a0 Z = true) (w2 : (Jvm.Cond.instanceMethod z).before a0 Z = true) (w3 : (Jvm.Cond.initialized z.cls).before a0 Z = true) (w4 : (Jvm.Cond.code z bytes maxL ret).before a0 Z = true) (hM : own_Met l Z h z bytes maxL ret rm as' Q) (W : Nat) (nc ns : Nat) 
    (hc : cells + nc ≤ R.cells) (hs : slots + ns ≤ R.slots) (eT : T.heap = h) {a : Addr} (E : Exa Z h a C) {g : JFrame} (hg : g.method = m) (hsize : g.locals.size = c.maxLocals)
    (argsL rest : List Value) (hlen : ∀ sig, parseMethodDescriptor y.desc = some sig → argsL.length = sig.parameters.length) (hstack : g.stack = argsL.reverse ++ .ref a :: rest) (has : (Value.ref a :: argsL).toArray = as') (hdg : decode c.code g.pc = .ok (.invokevirtual index, 3))
    (hy : y.cls ≠ "java/lang/invoke/MethodHandle" ∧ y.cls ≠ "java/lang/invoke/VarHandle" := by decide) (hf : rm.frames + 1 ≤ R.frames := by decide) (hl : W + (maxL + 11) + rm.locals ≤ R.locals := by decide) (hW : 2 * g.monitorRoom + (rest.map fun v => v.category).sum ≤ W := by exact Nat.le_of_eq rfl) (hnc : rm.cells = nc := by rfl) (hns : rm.slots = ns := by rfl) :
    ∃ v T' L, Stand p l e R s m args below meth c T' (locs ++ L) (cells + nc) (slots + ns) ∧ Q v T'.heap L ∧ ∀ target, Steps p.tables e below (T'.setTop { g with pc := g.pc + 3, stack := v.toList ++ rest }) target → Steps p.tables e below (T.setTop g) target := by
  subst hnc hns
  obtain ⟨cq, kq, qa, qb, qc⟩ := isOf hZ eT E
  obtain ⟨v, _, ⟨T', L', k', n'⟩, -, X', ⟨L, hQ, h1, h2, h3⟩, st⟩ := X.virtualBack hx hown (mvT hZ w1) (mvT hZ wd) nf (mvT hZ wsel) (mvT hZ w2) hy (backOf (W := W) hM hZ w4 w3 hf hl) qa qc hg hsize (Steps.refl _) (argsL := argsL) (rest := rest) hlen hstack hW hdg (fun _ _ => ⟨has, eT, hc, hs⟩)
  dsimp only [Pt.U, Pt.locs, Pt.cells, Pt.slots] at X' hQ h1 h2 h3 st
  subst h1 h2 h3
  exact ⟨v, T', L, X', hQ, fun _ k => st.trans k⟩
theorem own_callP {y : MethodName} {bytes : ByteArray} {maxL : Nat} {ret : Option FieldType} {rm : Room} {as' : Array Value} {own C : String} {index : Nat} (X : Stand p l e R s m args below meth c T locs cells slots) (hx : p.tables.exec = Jvm.exec) (hZ : Z.Warmed39 s.vm) (hown : s.vm.findClass own = some m.cls)
    (w1 : (Jvm.Cond.methodLink own index y).before a0 Z = true) (w2 : (Jvm.Cond.instanceMethod y).before a0 Z = true) (wsel : (Jvm.Cond.selects y.cls y y).before a0 Z = true) (wp : (Jvm.Cond.privateMethod y).before a0 Z = true) (w3 : (Jvm.Cond.initialized y.cls).before a0 Z = true) (w4 : (Jvm.Cond.code y bytes maxL ret).before a0 Z = true) (hM : own_Met l Z h y bytes maxL ret rm as' Q) (W : Nat) (nc ns : Nat) 
    (hc : cells + nc ≤ R.cells) (hs : slots + ns ≤ R.slots) (eT : T.heap = h) {a : Addr} (E : Exa Z h a C) {g : JFrame} (hg : g.method = m) (hsize : g.locals.size = c.maxLocals)
    (argsL rest : List Value) (hlen : ∀ sig, parseMethodDescriptor y.desc = some sig → argsL.length = sig.parameters.length) (hstack : g.stack = argsL.reverse ++ .ref a :: rest) (has : (Value.ref a :: argsL).toArray = as') (hdg : decode c.code g.pc = .ok (.invokevirtual index, 3))
    (hy : y.cls ≠ "java/lang/invoke/MethodHandle" ∧ y.cls ≠ "java/lang/invoke/VarHandle" := by decide) (hf : rm.frames + 1 ≤ R.frames := by decide) (hl : W + (maxL + 11) + rm.locals ≤ R.locals := by decide) (hW : 2 * g.monitorRoom + (rest.map fun v => v.category).sum ≤ W := by exact Nat.le_of_eq rfl) (hnc : rm.cells = nc := by rfl) (hns : rm.slots = ns := by rfl) :
    ∃ v T' L, Stand p l e R s m args below meth c T' (locs ++ L) (cells + nc) (slots + ns) ∧ Q v T'.heap L ∧ ∀ target, Steps p.tables e below (T'.setTop { g with pc := g.pc + 3, stack := v.toList ++ rest }) target → Steps p.tables e below (T.setTop g) target := by
  subst hnc hns
  obtain ⟨cq, q1, q2⟩ := E.cell
  obtain ⟨v, _, ⟨T', L', k', n'⟩, -, X', ⟨L, hQ, h1, h2, h3⟩, st⟩ := X.privateBack hx hown (mvT hZ w1) (mvT hZ w2) (mvT hZ wsel) (Cond.privateMethod_at (mvP hZ wp (args := #[]))) (mvT hZ w4) hy (backOf (W := W) hM hZ w4 w3 hf hl) hg hsize (Steps.refl _) (a := a) (by rw [eT]; exact q1) q2 (argsL := argsL) (rest := rest) hlen hstack hW hdg (fun _ _ => ⟨has, eT, hc, hs⟩)
  dsimp only [Pt.U, Pt.locs, Pt.cells, Pt.slots] at X' hQ h1 h2 h3 st
  subst h1 h2 h3
  exact ⟨v, T', L, X', hQ, fun _ k => st.trans k⟩
theorem own_callF {xi y : MethodName} {bytes : ByteArray} {maxL : Nat} {ret : Option FieldType} {rm : Room} {as' : Array Value} {own C : String} {index count : Nat} (X : Stand p l e R s m args below meth c T locs cells slots) (hx : p.tables.exec = Jvm.exec) (hZ : Z.Warmed39 s.vm) (hown : s.vm.findClass own = some m.cls)
    (w1 : (Jvm.Cond.methodLink own index xi).before a0 Z = true) (wd : (Jvm.Cond.declares xi).before a0 Z = true) (wfa : (Jvm.Cond.interfaceMethod xi.cls xi.cls xi.name xi.desc).before a0 Z = true) (wsel : (Jvm.Cond.selects C xi y).before a0 Z = true) (w2 : (Jvm.Cond.instanceMethod y).before a0 Z = true) (wp : (Jvm.Cond.publicMethod y).before a0 Z = true) (wu : (Jvm.Cond.unhidden C xi.name xi.desc).before a0 Z = true) (wk : (Jvm.Cond.castable C xi.cls).before a0 Z = true) (w3 : (Jvm.Cond.initialized y.cls).before a0 Z = true) (w4 : (Jvm.Cond.code y bytes maxL ret).before a0 Z = true) (hfk : ((Jvm.Cond.interfaceMethod xi.cls xi.cls xi.name xi.desc).onTables && (Jvm.Cond.interfaceMethod xi.cls xi.cls xi.name xi.desc).keepsFace) = true) (hM : own_Met l Z h y bytes maxL ret rm as' Q) (W : Nat) (nc ns : Nat) 
    (hc : cells + nc ≤ R.cells) (hs : slots + ns ≤ R.slots) (eT : T.heap = h) {a : Addr} (E : Exa Z h a C) {g : JFrame} (hg : g.method = m) (hsize : g.locals.size = c.maxLocals)
    (argsL rest : List Value) (hlen : ∀ sig, parseMethodDescriptor xi.desc = some sig → argsL.length = sig.parameters.length) (hstack : g.stack = argsL.reverse ++ .ref a :: rest) (has : (Value.ref a :: argsL).toArray = as') (hdg : decode c.code g.pc = .ok (.invokeinterface index count, 5))
    (hy : xi.cls ≠ "java/lang/invoke/MethodHandle" ∧ xi.cls ≠ "java/lang/invoke/VarHandle" := by decide) (hf : rm.frames + 1 ≤ R.frames := by decide) (hl : W + (maxL + 11) + rm.locals ≤ R.locals := by decide) (hW : 2 * g.monitorRoom + (rest.map fun v => v.category).sum ≤ W := by exact Nat.le_of_eq rfl) (hnc : rm.cells = nc := by rfl) (hns : rm.slots = ns := by rfl) :
    ∃ v T' L, Stand p l e R s m args below meth c T' (locs ++ L) (cells + nc) (slots + ns) ∧ Q v T'.heap L ∧ ∀ target, Steps p.tables e below (T'.setTop { g with pc := g.pc + 5, stack := v.toList ++ rest }) target → Steps p.tables e below (T.setTop g) target := by
  subst hnc hns
  obtain ⟨cq, kq, qa, qb, qc⟩ := isOf hZ eT E
  obtain ⟨v, _, ⟨T', L', k', n'⟩, -, X', ⟨L, hQ, h1, h2, h3⟩, st⟩ := X.interfaceBack hx hown (mvT hZ w1) (mvT hZ wd) (mvT hZ wfa hfk) (mvT hZ wsel) (mvT hZ w2) (mvT hZ wp) (mvT hZ wu) (mvT hZ wk) hy (backOf (W := W) hM hZ w4 w3 hf hl) qa qb qc hg hsize (Steps.refl _) (argsL := argsL) (rest := rest) hlen hstack hW hdg (fun _ _ => ⟨has, eT, hc, hs⟩)
  dsimp only [Pt.U, Pt.locs, Pt.cells, Pt.slots] at X' hQ h1 h2 h3 st
  subst h1 h2 h3
  exact ⟨v, T', L, X', hQ, fun _ k => st.trans k⟩
theorem own_callU {y z : MethodName} {bytes : ByteArray} {maxL : Nat} {ret : Option FieldType} {rm : Room} {as' : Array Value} {own owner C : String} {index : Nat} (X : Stand p l e R s m args below meth c T locs cells slots) (hx : p.tables.exec = Jvm.exec) (hZ : Z.Warmed39 s.vm) (hown : s.vm.findClass own = some m.cls)
    (w1 : (Jvm.Cond.methodLink own index y).before a0 Z = true) (wsm : (Jvm.Cond.sameMethod y.cls owner y.name y.desc).before a0 Z = true) (wd : (Jvm.Cond.declares ⟨owner, y.name, y.desc⟩).before a0 Z = true) (wsel : (Jvm.Cond.selects C y z).before a0 Z = true) (w2 : (Jvm.Cond.instanceMethod z).before a0 Z = true) (w3 : (Jvm.Cond.initialized z.cls).before a0 Z = true) (w4 : (Jvm.Cond.code z bytes maxL ret).before a0 Z = true) (hM : own_Met l Z h z bytes maxL ret rm as' Q) (W : Nat) (nc ns : Nat) 
    (hc : cells + nc ≤ R.cells) (hs : slots + ns ≤ R.slots) (eT : T.heap = h) {a : Addr} (E : Exa Z h a C) {g : JFrame} (hg : g.method = m) (hsize : g.locals.size = c.maxLocals)
    (argsL rest : List Value) (hlen : ∀ sig, parseMethodDescriptor y.desc = some sig → argsL.length = sig.parameters.length) (hstack : g.stack = argsL.reverse ++ .ref a :: rest) (has : (Value.ref a :: argsL).toArray = as') (hdg : decode c.code g.pc = .ok (.invokevirtual index, 3))
    (howner : owner ≠ "java/lang/invoke/MethodHandle" ∧ owner ≠ "java/lang/invoke/VarHandle" := by decide) (hf : rm.frames + 1 ≤ R.frames := by decide) (hl : W + (maxL + 11) + rm.locals ≤ R.locals := by decide) (hW : 2 * g.monitorRoom + (rest.map fun v => v.category).sum ≤ W := by exact Nat.le_of_eq rfl) (hnc : rm.cells = nc := by rfl) (hns : rm.slots = ns := by rfl) :
    ∃ v T' L, Stand p l e R s m args below meth c T' (locs ++ L) (cells + nc) (slots + ns) ∧ Q v T'.heap L ∧ ∀ target, Steps p.tables e below (T'.setTop { g with pc := g.pc + 3, stack := v.toList ++ rest }) target → Steps p.tables e below (T.setTop g) target := by
  subst hnc hns
  obtain ⟨cq, kq, qa, qb, qc⟩ := isOf hZ eT E
  obtain ⟨v, _, ⟨T', L', k', n'⟩, -, X', ⟨L, hQ, h1, h2, h3⟩, st⟩ := X.virtualBackUp hx hown (mvT hZ w1) (mvT hZ wsm) (mvT hZ wd) howner (mvT hZ wsel) (mvT hZ w2) (backOf (W := W) hM hZ w4 w3 hf hl) qa qc hg hsize (Steps.refl _) (argsL := argsL) (rest := rest) hlen hstack hW hdg (fun _ _ => ⟨has, eT, hc, hs⟩)
  dsimp only [Pt.U, Pt.locs, Pt.cells, Pt.slots] at X' hQ h1 h2 h3 st
  subst h1 h2 h3
  exact ⟨v, T', L, X', hQ, fun _ k => st.trans k⟩
theorem own_callIB {y : MethodName} {bytes : ByteArray} {maxL : Nat} {as' : Array Value} {own : String} {index : Nat} (X : Stand p l e R s m args below meth c T locs cells slots) (hx : p.tables.exec = Jvm.exec) (hZ : Z.Warmed39 s.vm) (hown : s.vm.findClass own = some m.cls)
    (w1 : (Jvm.Cond.methodLink own index y).before a0 Z = true) (w2 : (Jvm.Cond.instanceMethod y).before a0 Z = true) (w3 : (Jvm.Cond.initialized y.cls).before a0 Z = true) (w4 : (Jvm.Cond.code y bytes maxL none).before a0 Z = true) (W nc ns : Nat) (hB : Back l R p e below s args y 3 W (fun A a => a = as' ∧ A.U.heap = h ∧ A.cells + nc ≤ R.cells ∧ A.slots + ns ≤ R.slots) (fun A _ v B => ∃ L, Q v B.U.heap L ∧ B.locs = A.locs ++ L ∧ B.cells = A.cells + nc ∧ B.slots = A.slots + ns)) (hy1 : y.name = "<init>")
    (hc : cells + nc ≤ R.cells) (hs : slots + ns ≤ R.slots) (eT : T.heap = h) {g : JFrame} (hg : g.method = m) (hsize : g.locals.size = c.maxLocals)
    (a : Addr) (argsL rest : List Value) (hlen : ∀ sig, parseMethodDescriptor y.desc = some sig → argsL.length = sig.parameters.length) (hstack : g.stack = argsL.reverse ++ .ref a :: rest) (has : (Value.ref a :: argsL).toArray = as') (hdg : decode c.code g.pc = .ok (.invokespecial index, 3))
    (hy : y.cls ≠ "java/lang/invoke/MethodHandle" ∧ y.cls ≠ "java/lang/invoke/VarHandle" := by decide) (hW : 2 * g.monitorRoom + (rest.map fun v => v.category).sum ≤ W := by exact Nat.le_of_eq rfl) :
    ∃ v T' L, Stand p l e R s m args below meth c T' (locs ++ L) (cells + nc) (slots + ns) ∧ Q v T'.heap L ∧ ∀ target, Steps p.tables e below (T'.setTop { g with pc := g.pc + 3, stack := v.toList ++ rest }) target → Steps p.tables e below (T.setTop g) target := by
  obtain ⟨v, _, ⟨T', L', k', n'⟩, -, X', ⟨L, hQ, h1, h2, h3⟩, st⟩ := X.specialBack hx hy1 hown (mvT hZ w1) (mvT hZ w2) (mvT hZ w4) hy hB hg hsize (Steps.refl _) (a := a) (argsL := argsL) (rest := rest) hlen hstack hW hdg (fun _ _ => ⟨has, eT, hc, hs⟩)
  dsimp only [Pt.U, Pt.locs, Pt.cells, Pt.slots] at X' hQ h1 h2 h3 st
  subst h1 h2 h3
  exact ⟨v, T', L, X', hQ, fun _ k => st.trans k⟩
theorem own_callVB {y z : MethodName} {bytes : ByteArray} {maxL : Nat} {ret : Option FieldType} {as' : Array Value} {own C : String} {index : Nat} (X : Stand p l e R s m args below meth c T locs cells slots) (hx : p.tables.exec = Jvm.exec) (hZ : Z.Warmed39 s.vm) (hown : s.vm.findClass own = some m.cls)
    (w1 : (Jvm.Cond.methodLink own index y).before a0 Z = true) (wd : (Jvm.Cond.declares y).before a0 Z = true) (nf : NotFace s y) (wsel : (Jvm.Cond.selects C y z).before a0 Z = true) (w2 : (Jvm.Cond.instanceMethod z).before a0 Z = true) (w3 : (Jvm.Cond.initialized z.cls).before a0 Z = true) (w4 : (Jvm.Cond.code z bytes maxL ret).before a0 Z = true) (W nc ns : Nat) (hB : Back l R p e below s args z 3 W (fun A a => a = as' ∧ A.U.heap = h ∧ A.cells + nc ≤ R.cells ∧ A.slots + ns ≤ R.slots) (fun A _ v B => ∃ L, Q v B.U.heap L ∧ B.locs = A.locs ++ L ∧ B.cells = A.cells + nc ∧ B.slots = A.slots + ns)) 
    (hc : cells + nc ≤ R.cells) (hs : slots + ns ≤ R.slots) (eT : T.heap = h) {a : Addr} (E : Exa Z h a C) {g : JFrame} (hg : g.method = m) (hsize : g.locals.size = c.maxLocals)
    (argsL rest : List Value) (hlen : ∀ sig, parseMethodDescriptor y.desc = some sig → argsL.length = sig.parameters.length) (hstack : g.stack = argsL.reverse ++ .ref a :: rest) (has : (Value.ref a :: argsL).toArray = as') (hdg : decode c.code g.pc = .ok (.invokevirtual index, 3))
    (hy : y.cls ≠ "java/lang/invoke/MethodHandle" ∧ y.cls ≠ "java/lang/invoke/VarHandle" := by decide) (hW : 2 * g.monitorRoom + (rest.map fun v => v.category).sum ≤ W := by exact Nat.le_of_eq rfl) :
    ∃ v T' L, Stand p l e R s m args below meth c T' (locs ++ L) (cells + nc) (slots + ns) ∧ Q v T'.heap L ∧ ∀ target, Steps p.tables e below (T'.setTop { g with pc := g.pc + 3, stack := v.toList ++ rest }) target → Steps p.tables e below (T.setTop g) target := by
  obtain ⟨cq, kq, qa, qb, qc⟩ := isOf hZ eT E
  obtain ⟨v, _, ⟨T', L', k', n'⟩, -, X', ⟨L, hQ, h1, h2, h3⟩, st⟩ := X.virtualBack hx hown (mvT hZ w1) (mvT hZ wd) nf (mvT hZ wsel) (mvT hZ w2) hy hB qa qc hg hsize (Steps.refl _) (argsL := argsL) (rest := rest) hlen hstack hW hdg (fun _ _ => ⟨has, eT, hc, hs⟩)
  dsimp only [Pt.U, Pt.locs, Pt.cells, Pt.slots] at X' hQ h1 h2 h3 st
  subst h1 h2 h3
  exact ⟨v, T', L, X', hQ, fun _ k => st.trans k⟩
/-- the start's heap stands in h unchanged -/
theorem own_oldExt {h' : Heap} (O : Ext Z.heap h) (E : Ext h h') : Ext Z.heap h' := ⟨Nat.le_trans O.1 E.1, fun x c q => E.2 x c (O.2 x c q)⟩
theorem own_oldKeep {h' : Heap} {ws : List Addr} (O : Ext Z.heap h) (K : Keep h h' ws) (q : ∀ x ∈ ws, Z.heap.size ≤ x) : Ext Z.heap h' :=
  ⟨Nat.le_trans O.1 K.1, fun x c r => K.2.1 x c (O.2 x c r) fun z => absurd (Array.getElem?_eq_some_iff.mp r).1 (Nat.not_lt.mpr (q x z))⟩
theorem own_oldWr {h' : Heap} {a : Addr} {sl : Nat} {v : Value} (O : Ext Z.heap h) (W : Wr h h' a sl v) (q : Z.heap.size ≤ a) : Ext Z.heap h' := own_oldKeep O (Keep.of_wr W) (allS q all0)
theorem own_keepTrans {h0 h' : Heap} {ws : List Addr} (K : Keep h0 h ws) (K' : Keep h h' []) : Keep h0 h' ws := K.trans K' fun x q => nomatch q
theorem own_insKeep {h' : Heap} {ws : List Addr} {a : Addr} {C : String} {b : Bool} (F : Ins Z h a C b) (K : Keep h h' ws) : Ins Z h' a C b := by
  obtain ⟨cell, cT, h1, h2, h3⟩ := F
  obtain ⟨c', q1, q2, q3, -⟩ := K.2.2 a cell h1
  exact ⟨c', cT, q1, h2, by rw [q2, q3]; exact h3⟩
theorem own_cat1 {v : Value} (r : v.isRef = true) : v.category = 1 := by cases v <;> simp [Value.isRef, Value.category] at r ⊢
theorem own_fitsRef {v : Value} (t : FieldType) (r : v.isRef = true) (ht : t.isReference = true) : fits t v = true := by
  cases t <;> first | (cases ht; done) | (rcases ref_cases r with rfl | ⟨_, rfl⟩ <;> rfl)
theorem own_narRef {v : Value} (t : FieldType) (r : v.isRef = true) (ht : t.isReference = true) : narrow t v = v := by
  cases t <;> first | (cases ht; done) | (rcases ref_cases r with rfl | ⟨_, rfl⟩ <;> rfl)
theorem own_keepSub {h0 : Heap} {ws ws' : List Addr} (K : Keep h0 h ws) (q : ∀ x ∈ ws, x ∈ ws') : Keep h0 h ws' := ⟨K.1, fun x c r z => K.2.1 x c r fun u => z (q x u), K.2.2⟩
theorem own_neTy {a b : Addr} {k k' : ClassId} {ty ty' : FieldType} {z z' : Int32} {vs vs' : List Value} {d d' : Value} (F : Arv Z h a k ty z vs d) (G : Arv Z h b k' ty' z' vs' d') (hn : ty ≠ ty') : a ≠ b := by
  rintro rfl
  obtain ⟨c, A, -⟩ := F
  obtain ⟨c', A', -⟩ := G
  cases A.1.symm.trans A'.1
  obtain ⟨-, k1, q1, cm1, r1⟩ := A.2.1
  obtain ⟨-, k2, q2, cm2, r2⟩ := A'.2.1
  cases q1.symm.trans q2
  rw [r1] at r2
  cases r2
  exact hn rfl
theorem own_catR (a : Addr) : (Value.ref a).category = 1 := rfl
theorem own_catN : Value.null.category = 1 := rfl
theorem own_catI (a : Int32) : (Value.int a).category = 1 := rfl
theorem own_catJ (a : Int64) : (Value.long a).category = 2 := rfl
end OwnKit
/-- the state with these tables and this heap -/
abbrev own_at (Z : State) (vm : Vm) (h : Heap) : State := { Z with vm := vm, heap := h }
theorem own_byteV (u : UInt8) : byteValue u = .int u.toInt8.toInt32 := rfl
theorem own_slFacts {Z : State} {vm : Vm} {h : Heap} {a : Addr} {units : Array UInt16} (hW : Z.Warmed39 vm) (H : SlOf (own_at Z vm h) a units) (hlat : units.all (· < 256) = true) :
    ∃ (b : Addr) (k : ClassId), Exa Z h a "java/lang/String" ∧ Fld Z h a "java/lang/String" "coder" "B" (.int 0) ∧ Fld Z h a "java/lang/String" "value" "[B" (.ref b) ∧ Arv Z h b k .byte (Int32.ofNat units.size) (units.toList.map fun u => Value.int u.toUInt8.toInt8.toInt32) (.int 0) := by
  have hal : Z.vm.Alike (own_at Z vm h).vm := hW.alike
  obtain ⟨q, cS, rfl, ⟨⟨s1, s2, s3, ⟨cv, kv, iv', s4, s4'⟩, ⟨cc, kc, ic, s5, s5'⟩, s6, s7, s8, s9, s10, s11, s12, s13, s14, s15, s16⟩, hfS, hcS⟩, ⟨kS, k1, k2, k3⟩, hB, hby⟩ := H
  obtain ⟨kv', z4⟩ := ff_back hal s4
  obtain ⟨kc', z5⟩ := ff_back hal s5
  have hf : Z.vm.findClass "java/lang/String" = some q.sC.cls := by rw [hcS, ← hal.findClass]; exact hfS
  obtain ⟨kz, hkz, -⟩ := Vm.findClass_spec hf
  obtain ⟨kz', hkz', ekz⟩ := hal.2.2 _ _ hkz
  rw [hcS] at hkz'
  cases hkz'.symm.trans k1
  have hBZ : Z.vm.findClass "[B" = some q.SA.cls := by rw [← hal.findClass]; exact hB
  obtain ⟨kb, hkb, -⟩ := Vm.findClass_spec hBZ
  obtain ⟨kb', hkb', ekb⟩ := hal.2.2 _ _ hkb
  obtain ⟨hst, k9, hk9, comp, hkind⟩ := s11
  cases hk9.symm.trans hkb'
  have hsl : q.SA.slots = units.map fun u => byteValue u.toUInt8 := by rw [hby, SBG.stringBytes_lat hlat]
  have hsz : q.SA.slots.size = units.size := by rw [hsl, Array.size_map]
  have hlt : units.size < 2 ^ 31 := by omega
  have hn : (Int32.ofNat units.size).toNatClampNeg = units.size ∧ ¬ (Int32.ofNat units.size) < 0 := by
    have e : (Int32.ofNat units.size).toInt = units.size := by
      exact len_toInt hlt
    refine ⟨by simp [Int32.toNatClampNeg, e], ?_⟩
    rw [Int32.lt_iff_toInt_lt, e]; show ¬ ((units.size : Int) < 0); omega
  have H' : Has q.SA (units.toList.map fun u => Value.int u.toUInt8.toInt8.toInt32) (.int 0) := fun j hj => by
    have hj' : j < units.size := by omega
    rw [hsl]; simp [hj', own_byteV]
  refine ⟨q.sd, q.SA.cls, ⟨q.sC, kz, s1, hf, hkz, s3, fun _ => by rw [k3, ekz]⟩, ⟨q.sC, cc, kc', ic, q.fSC, s1, z5, s7, s2, s3, by rw [← hal.assignable]; exact s5', s9⟩, ⟨q.sC, cv, kv', iv', q.fSV, s1, z4, s6, s2, s3, by rw [← hal.assignable]; exact s4', s8⟩, q.SA, ⟨s10, ⟨hst, kb, hkb, comp, by rw [ekb] at hkind; exact hkind⟩, s12⟩, rfl, by rw [hsz, hn.1], hn.2, H', fun j hj => ?_⟩
  have e1 := s16 j hj
  rw [SBG.getD_of (H' j hj)] at e1
  exact e1
def own_L (Z : State) (a0 : Array Value) : Prop := ∀ e ∈ consts_1, ∃ text, (Jvm.Cond.stringLink e.1 e.2 text).before a0 Z = true
/-- whichever String the JVM holds for a constant of the list, she bears its text -/
def own_J (Z : State) (vm : Vm) (h : Heap) : Prop := ∀ e ∈ consts_1, ConstHeldL (own_at Z vm h) e.1 e.2
theorem own_Jstep {Z : State} {vm vm' : Vm} {h h' : Heap} {a0 : Array Value} (L : own_L Z a0) (hZ : Z.Warmed39 vm) (hJ : own_J Z vm h) (hW : (own_at Z vm h).Warmed39 vm')
    (hmv : ∀ a units, SlOf (own_at Z vm h) a units → SlOf (own_at Z vm' h') a units)
    (hfind : ∀ units a, vm'.interned.find? (fun p => p.1 == units) = some (units, a) → vm.interned.find? (fun p => p.1 == units) = some (units, a) ∨ SlOf (own_at Z vm' h') a units) : own_J Z vm' h' := by
  intro e he c k' cf i units a hc' hk' hcf' hp hu hor
  have hal : vm.Alike vm' := hW.alike
  have hc : vm.findClass e.1 = some c := by rw [← hal.findClass]; exact hc'
  obtain ⟨text, ht⟩ := L e he
  have ht' : (Jvm.Cond.stringLink e.1 e.2 text).before a0 (own_at Z vm h) = true := mvS (s := { Z with heap := h }) hZ ht
  obtain ⟨k, cf0, i0, units0, hk, hcf, hp0, hu0, hnm, -, -⟩ := Cond.stringLink_spec (s := own_at Z vm h) hc ht'
  obtain ⟨k2, hk2, hke, -, ee, -⟩ := hW.2.2.2 c k hk
  cases (show vm'.classes[c]? = some k' from hk').symm.trans hk2
  have hcfe : k'.cf = k.cf := by rw [hke]
  cases (hcfe ▸ hcf').symm.trans hcf
  cases hp.symm.trans hp0
  cases hu.symm.trans hu0
  have H := hJ e he c k cf i units
  rcases ee e.2 with e0 | ⟨hop, r, e1, hr | ⟨a3, t3, si, us, rfl, -, q3, q4, q5⟩⟩
  · rcases hor with h0 | ⟨h0, hf⟩
    · exact hmv _ _ (H a hc hk hcf hp hu (Or.inl (e0 ▸ h0)))
    · rcases hfind units a hf with hf | hs
      · exact hmv _ _ (H a hc hk hcf hp hu (Or.inr ⟨e0 ▸ h0, hf⟩))
      · exact hs
  · exfalso
    cases r <;> simp [State.rightAt, hk, hcf, hnm] at hr
  · have e3 : si = i := by
      rw [hcf] at q3
      have q := q3.symm.trans hp
      simpa using q
    subst e3
    have e4 : us = units := by
      rw [hcf] at q4
      simpa [ConstantPool.utf8?, hu] using q4.symm
    subst e4
    have ea : a3 = a := by
      rcases hor with h0 | ⟨h0, -⟩
      · have q := e1.symm.trans h0; simpa using q
      · have q := e1.symm.trans h0; simp at q
    subst ea
    rcases hfind us a3 q5 with hf | hs
    · exact hmv _ _ (H a3 hc hk hcf hp hu (Or.inr ⟨hop, hf⟩))
    · exact hs
theorem own_Jwarm {Z s : State} {vm vm' : Vm} {h : Heap} {a0 : Array Value} (L : own_L Z a0) (hZ : Z.Warmed39 vm) (hJ : own_J Z vm h) (hW : (s.setVm vm).WarmedH vm') : own_J Z vm' h := by
  have hW1 : (own_at Z vm h).WarmedH vm' := hW
  refine own_Jstep L hZ hJ hW1.wide (fun a u H => H.moved hW1.alike fun _ _ q => q) fun units a hf => Or.inl ?_
  have e : vm'.interned = vm.interned := hW1.interned_eq
  rw [← e]; exact hf
theorem own_Jext {Z : State} {vm : Vm} {h h' : Heap} (hJ : own_J Z vm h) (E : Ext h h') : own_J Z vm h' := fun e he c k cf i units a h1 h2 h3 h4 h5 h6 =>
  (hJ e he c k cf i units a h1 h2 h3 h4 h5 h6).moved (Vm.Alike.refl _) fun b c q => E.2 b c q
/-- the cell at w is no String and no byte[] -/
def own_Far (Z : State) (h : Heap) (w : Addr) : Prop := ∀ cell : Cell, h[w]? = some cell → ¬ Z.vm.findClass "java/lang/String" = some cell.cls ∧ ¬ Z.isArrayOf cell .byte
theorem own_farN {Z : State} {h : Heap} {w : Addr} (q : h.size ≤ w) : own_Far Z h w := fun cell hc => absurd (Array.getElem?_eq_some_iff.mp hc).1 (Nat.not_lt.mpr q)
theorem own_farE {Z : State} {h : Heap} {w : Addr} {C : String} {n : Nat} {a0 : Array Value} (E : Exa Z h w C) (hC : C ≠ "java/lang/String") (wi : (Jvm.Cond.instantiable C n).before a0 Z = true) : own_Far Z h w := fun cell hc => by
  obtain ⟨c1, k, e1, e2, e3, -, -⟩ := E
  cases hc.symm.trans e1
  refine ⟨fun q => ids_ne e2 q hC rfl, fun q => ?_⟩
  obtain ⟨c2, k2, i1, i2, i3, -⟩ := Cond.instantiable_spec wi
  cases e2.symm.trans i1
  cases e3.symm.trans i2
  obtain ⟨-, k3, j1, cm, j2⟩ := q
  cases e3.symm.trans j1
  rw [i3] at j2; cases j2
theorem own_farV {Z : State} {h : Heap} {w : Addr} {k : ClassId} {ty : FieldType} {z : Int32} {vs : List Value} {d : Value} {n : Nat} {a0 : Array Value} (V : Arv Z h w k ty z vs d) (hty : ty ≠ .byte) (wi : (Jvm.Cond.instantiable "java/lang/String" n).before a0 Z = true) : own_Far Z h w := fun cell hc => by
  obtain ⟨c1, A, -⟩ := V
  cases hc.symm.trans A.1
  obtain ⟨-, k3, j1, cm, j2⟩ := A.2.1
  refine ⟨fun q => ?_, fun q => ?_⟩
  · obtain ⟨c2, k2, i1, i2, i3, -⟩ := Cond.instantiable_spec wi
    cases q.symm.trans i1
    cases j1.symm.trans i2
    rw [i3] at j2; cases j2
  · obtain ⟨-, k4, r1, cm', r2⟩ := q
    cases j1.symm.trans r1
    rw [j2] at r2; cases r2
    exact hty rfl
theorem own_slKeep {Z : State} {vm : Vm} {h h' : Heap} {ws : List Addr} {a : Addr} {units : Array UInt16} (hZ : Z.Warmed39 vm) (H : SlOf (own_at Z vm h) a units) (K : Keep h h' ws) (far : ∀ w ∈ ws, own_Far Z h w) : SlOf (own_at Z vm h') a units := by
  obtain ⟨q, cS, h1, h2, h3, h4, h5⟩ := H
  have hal : Z.vm.Alike vm := hZ.alike
  obtain ⟨⟨s1, s2, s3, s4, s5, s6, s7, s8, s9, s10, s11, s12⟩, hfS, hcS⟩ := id h2
  have n1 : q.sa ∉ ws := fun m => (far _ m _ s1).1 (by rw [hcS, ← hal.findClass]; exact hfS)
  have n2 : q.sd ∉ ws := fun m => (far _ m _ s10).2 (by
    obtain ⟨t1, k, t2, cm, t3⟩ := s11
    obtain ⟨kb, hkb⟩ : ∃ kb, Z.vm.classes[q.SA.cls]? = some kb := by
      obtain ⟨kb, hkb, -⟩ := Vm.findClass_spec (show Z.vm.findClass "[B" = some q.SA.cls by rw [← hal.findClass]; exact h4)
      exact ⟨kb, hkb⟩
    obtain ⟨kb', hkb', ekb⟩ := hal.2.2 _ _ hkb
    cases t2.symm.trans hkb'
    exact ⟨t1, kb, hkb, cm, by rw [ekb] at t3; exact t3⟩)
  exact ⟨q, cS, h1, SBG.Sl.carry (U := own_at Z vm h) (U' := own_at Z vm h') (Vm.Alike.refl vm) (K.2.1 _ _ s1 n1) (K.2.1 _ _ s10 n2) h2, h3, h4, h5⟩
theorem own_Jkeep {Z : State} {vm : Vm} {h h' : Heap} {ws : List Addr} (hZ : Z.Warmed39 vm) (hJ : own_J Z vm h) (K : Keep h h' ws) (far : ∀ w ∈ ws, own_Far Z h w) : own_J Z vm h' := fun e he c k cf i units a h1 h2 h3 h4 h5 h6 =>
  own_slKeep hZ (hJ e he c k cf i units a h1 h2 h3 h4 h5 h6) K far
theorem own_Jwr {Z : State} {vm : Vm} {h h' : Heap} {w : Addr} {sl : Nat} {v : Value} (hZ : Z.Warmed39 vm) (hJ : own_J Z vm h) (W : Wr h h' w sl v) (far : own_Far Z h w) : own_J Z vm h' := own_Jkeep hZ hJ (Keep.of_wr W) (allS far all0)
theorem own_unitsEq {u v : Array UInt16} {text : String} (hu : utf16ToString? u = some text) (hv : utf16ToString? v = some text) (ht : ∀ c ∈ text.toList, c.toNat < 256) : u = v :=
  Array.toList_inj.mp ((Jvm.ClassFile.units_of_text hu ht).trans (Jvm.ClassFile.units_of_text hv ht).symm)
theorem own_slIn {lo hi : Nat} {W : State} {a : Addr} {units : Array UInt16} (H : SlIn lo hi W a units) : SlOf W a units := by
  obtain ⟨q, cS, h1, h2, h3, h4, h5, -⟩ := H
  exact ⟨q, cS, h1, h2, h3, h4, h5⟩
theorem own_slState {W W' : State} {a : Addr} {units : Array UInt16} (H : SlOf W a units) (hv : W.vm = W'.vm) (hh : W.heap = W'.heap) : SlOf W' a units :=
  H.moved (by rw [hv]; exact Vm.Alike.refl _) fun b c q => by rw [← hh]; exact q
section OwnLdc
variable {p : Program} {l : Launch} {e : Env} {R : Room} {s : State} {vm0 : Vm} {m : MethodId} {args : Array Value} {below : List Frame} {meth : Method} {c : Code} {T : State} {locs : List Loc} {cells slots : Nat} {Z : State} {a0 : Array Value} {h : Heap}
theorem own_ldcJ (X : Stand p l e R (s.setVm vm0) m args below meth c T locs cells slots) (hS : s.Since vm0 h.size) (hx : p.tables.exec = Jvm.exec) (hZ : Z.Warmed39 (s.setVm vm0).vm) {own text : String} {index : Nat} (hown : (s.setVm vm0).vm.findClass own = some m.cls)
    (L : own_L Z a0) (hmem : (own, index) ∈ consts_1) (w : (Jvm.Cond.stringLink own index text).before a0 Z = true) (wS : ∀ a ∈ Bundle.stringAtoms, a.before a0 Z = true) (eT : T.heap = h) (N : Fr s.heap.size locs)
    (hJ0 : own_J Z s.vm s.heap) (hZ0 : Z.Warmed39 s.vm) (hJ : own_J Z vm0 h) {Ts : List String} (I : IB s vm0 Ts) (hnot : text ∉ Ts) (ht : ∀ c ∈ text.toList, c.toNat < 256)
    {g : JFrame} (hg : g.method = m) (hd : decode c.code g.pc = .ok (.ldc index, 2)) {n : Nat} (hn : 4 * text.toList.length ≤ n) (hbig : n ≤ 536870912) (hc : cells + 2 ≤ R.cells) (hl : slots + (n + 4) ≤ R.slots) :
    ∃ (a : Addr) (T' : State) (h' : Heap) (vm1 : Vm) (units : Array UInt16), Stand p l e R (s.setVm vm1) m args below meth c T' locs (cells + 2) (slots + (n + 4)) ∧ T'.heap = h' ∧ Ext h h' ∧ s.Since vm1 h'.size ∧ Z.Warmed39 (s.setVm vm1).vm ∧ (s.setVm vm1).vm.findClass own = some m.cls ∧ own_J Z vm1 h' ∧ IB s vm1 (text :: Ts) ∧
      Lit (s.setVm vm1) own index a ∧ utf16ToString? units = some text ∧ SlOf (own_at Z vm1 h') a units ∧ ∀ target, Steps p.tables e below (T'.setTop { g with pc := g.pc + 2, stack := .ref a :: g.stack }) target → Steps p.tables e below (T.setTop g) target := by
  have w0 : (Jvm.Cond.stringLink own index text).before args (s.setVm vm0) = true := mvS hZ w
  obtain ⟨k, cf, i, units, hk, hcf, hp, hu, hnm, htext, hres⟩ := Cond.stringLink_spec (s := s.setVm vm0) hown w0
  rcases hres with hop | ⟨a, hra⟩
  · have hsW : s.Warmed39 vm0 := hS.1
    have wl : (Jvm.Cond.stringLink own index text).before a0 s = true := mvS (s := s) hZ0 w
    have hH : ConstHeldL (s.setVm vm0) own index := heldCarry (Z := s) (s := s) (a0 := a0) hsW wl I hnot (fun _ _ q => q) (fun c' k' cf' i' u' a' q1 q2 q3 q4 q5 q6 => own_slState (hJ0 _ hmem c' k' cf' i' u' a' q1 q2 q3 q4 q5 q6) rfl rfl)
    obtain ⟨a, T2, X2, hS2, ⟨k2, hk2, hr2⟩, hb, -, hint, ⟨u2, ht2, hin⟩, st⟩ := X.ldcColdF (oldF X N) hx (own := own) hown w0 (fun d hd => by
      have q := wS d hd
      simp only [Bundle.stringAtoms, List.mem_cons, List.not_mem_nil, or_false] at hd
      rcases hd with rfl | rfl | rfl | rfl | rfl | rfl | rfl
      · exact mv hZ q
      · exact mv hZ q
      · exact mvA hZ q
      · exact mv hZ q
      · exact mv hZ q
      · exact mv hZ q
      · exact mv hZ q) hH (fun u hu => Jvm.ClassFile.lat_of_text hu ht) hg hd hn hbig hc hl
    subst eT
    have E := ext_of hb
    have hW2 : (s.setVm vm0).Warmed39 T2.vm := hS2.1
    have hTi : T.vm.interned = vm0.interned := X.warmed.interned_eq
    rw [hTi] at hint
    have hsl : SlOf (own_at Z T2.vm T2.heap) a u2 := own_slState (own_slIn hin) rfl rfl
    have hu2 : u2 = units := own_unitsEq ht2 htext ht
    subst hu2
    have hq5 : T2.vm.interned.find? (fun p => p.1 == u2) = some (u2, a) := by
      obtain ⟨k3, hk3, hke, -, ee, -⟩ := hW2.2.2.2 m.cls k hk
      cases hk3.symm.trans hk2
      rcases ee index with e0 | ⟨-, r, e1, hr | ⟨a3, t3, si, us, rfl, -, q3, q4, q5⟩⟩
      · rw [hr2, hop] at e0; cases e0
      · exfalso
        have hk0 : vm0.classes[m.cls]? = some k := hk
        cases r <;> simp [State.rightAt, hk0, hcf, hnm] at hr
      · rw [hcf] at q3 q4
        have e3 : si = i := by have q := q3.symm.trans hp; simpa using q
        subst e3
        have e4 : us = u2 := by simpa [ConstantPool.utf8?, hu] using q4.symm
        subst e4
        have ea : a3 = a := by have q := e1.symm.trans hr2; simpa using q
        subst ea
        exact q5
    have hZ2 : Z.Warmed39 T2.vm := State.Warmed39.trans (t := s.setVm vm0) hZ hW2
    refine ⟨a, T2, T2.heap, T2.vm, u2, X2, rfl, E, hS.trans hS2 E.1, hZ2, by rw [show (s.setVm T2.vm).vm = T2.vm from rfl, hW2.alike.findClass]; exact hown, ?_, I.step hint, ?_, ht2, hsl, st⟩
    · refine own_Jstep L hZ hJ hW2 (fun a' u' H => H.moved hW2.alike fun b c q => E.2 b c q) fun u' a' hf => ?_
      rcases hint with q | ⟨u3, a3, hu3, q⟩
      · rw [q] at hf; exact Or.inl hf
      · rw [q, Array.find?_push] at hf
        cases hold : vm0.interned.find? (fun p => p.1 == u') with
        | some pr => rw [hold] at hf; simp at hf; exact Or.inl (hold.trans (by rw [hf]))
        | none =>
          rw [hold] at hf
          simp only [Option.none_or] at hf
          split at hf
          · cases hf
            have e5 : u' = u2 := own_unitsEq hu3 ht2 ht
            subst e5
            have e6 : a' = a := by
              rw [q, Array.find?_push, hold] at hq5
              simpa using hq5
            subst e6
            exact Or.inr hsl
          · cases hf
    · have hf : T2.vm.findClass own = some m.cls := by rw [hW2.alike.findClass]; exact hown
      simp [Lit, State.resolvedAt?, hf, hk2, hr2]
  · have hLit : Lit (s.setVm vm0) own index a := by
      have hf : vm0.findClass own = some m.cls := hown
      have hk' : vm0.classes[m.cls]? = some k := hk
      simp [Lit, State.resolvedAt?, hf, hk', hra]
    have hsl : SlOf (own_at Z vm0 h) a units := hJ _ hmem m.cls k cf i units a hown hk hcf hp hu (Or.inl hra)
    refine ⟨a, T, h, vm0, units, X.more (by omega) (by omega), eT, ⟨Nat.le_refl _, fun _ _ q => q⟩, hS, hZ, hown, hJ, ?_, hLit, htext, hsl, ldcAgain X hx hZ hown w hLit hg hd⟩
    obtain ⟨more, e1, e2⟩ := I
    exact ⟨more, e1, fun q hq => by obtain ⟨t, h1, h2⟩ := e2 q hq; exact ⟨t, List.mem_cons_of_mem _ h1, h2⟩⟩
end OwnLdc
/-- no String that the JVM holds for a constant of the list is x -/
def own_Apart (vm : Vm) (x : Addr) : Prop := ∀ e ∈ consts_1, ∀ (c : ClassId) (k : Class) (cf : ClassFile) (i : Nat) (units : Array UInt16) (a : Addr), vm.findClass e.1 = some c → vm.classes[c]? = some k → k.cf = some cf →
    cf.constantPool[e.2]? = some (.string i) → cf.constantPool[i]? = some (.utf8 units) → (k.resolved[e.2]? = some (some (.string a)) ∨ (k.resolved[e.2]? = some none ∧ vm.interned.find? (fun p => p.1 == units) = some (units, a))) → a ≠ x
theorem own_slValue {Z : State} {vm : Vm} {h : Heap} {a : Addr} {units : Array UInt16} (hZ : Z.Warmed39 vm) (H : SlOf (own_at Z vm h) a units) : ∃ b, Fld Z h a "java/lang/String" "value" "[B" (.ref b) := by
  have hal : Z.vm.Alike (own_at Z vm h).vm := hZ.alike
  obtain ⟨q, cS, rfl, ⟨⟨s1, s2, s3, ⟨cv, kv, iv', s4, s4'⟩, -, s6, -, s8, -⟩, -, -⟩, -⟩ := H
  obtain ⟨kv', z4⟩ := ff_back hal s4
  exact ⟨q.sd, q.sC, cv, kv', iv', q.fSV, s1, z4, s6, s2, s3, by rw [← hal.assignable]; exact s4', s8⟩
theorem own_apart {Z : State} {vm : Vm} {h : Heap} {x : Addr} (hZ : Z.Warmed39 vm) (hJ : own_J Z vm h) (F : Fld Z h x "java/lang/String" "value" "[B" .null) : own_Apart vm x := fun e he c k cf i units a h1 h2 h3 h4 h5 h6 => by
  obtain ⟨b, G⟩ := own_slValue hZ (hJ e he c k cf i units a h1 h2 h3 h4 h5 h6)
  exact Fld.ne G F (fun q => nomatch q)
theorem own_JkeepS {Z : State} {vm : Vm} {h h' : Heap} {x : Addr} {n : Nat} {a0 : Array Value} (hZ : Z.Warmed39 vm) (hJ : own_J Z vm h) (K : Keep h h' [x]) (hA : own_Apart vm x) (E : Exa Z h x "java/lang/String") (wi : (Jvm.Cond.instantiable "java/lang/String" n).before a0 Z = true) : own_J Z vm h' := fun e he c k cf i units a h1 h2 h3 h4 h5 h6 => by
  have ha : a ≠ x := hA e he c k cf i units a h1 h2 h3 h4 h5 h6
  obtain ⟨q, cS, e1, g2, g3, g4, g5⟩ := hJ e he c k cf i units a h1 h2 h3 h4 h5 h6
  have hal : Z.vm.Alike vm := hZ.alike
  obtain ⟨⟨s1, s2, s3, s4, s5, s6, s7, s8, s9, s10, s11, s12⟩, hfS, hcS⟩ := id g2
  have n2 : q.sd ≠ x := fun m => by
    obtain ⟨t1, k', t2, cm, t3⟩ := s11
    obtain ⟨kb, hkb, -⟩ := Vm.findClass_spec (show Z.vm.findClass "[B" = some q.SA.cls by rw [← hal.findClass]; exact g4)
    obtain ⟨kb', hkb', ekb⟩ := hal.2.2 _ _ hkb
    cases t2.symm.trans hkb'
    obtain ⟨c1, kx, x1, x2, x3, -, -⟩ := E
    cases (m ▸ s10).symm.trans x1
    obtain ⟨c2, k2, i1, i2, i3, -⟩ := Cond.instantiable_spec wi
    cases x2.symm.trans i1
    cases hkb.symm.trans i2
    rw [ekb] at t3
    rw [i3] at t3; cases t3
  exact ⟨q, cS, e1, SBG.Sl.carry (U := own_at Z vm h) (U' := own_at Z vm h') (Vm.Alike.refl vm) (K.2.1 _ _ s1 (by rw [e1]; simpa using ha)) (K.2.1 _ _ s10 (by simpa using n2)) g2, g3, g4, g5⟩
theorem own_JwrS {Z : State} {vm : Vm} {h h' : Heap} {x : Addr} {n sl : Nat} {v : Value} {a0 : Array Value} (hZ : Z.Warmed39 vm) (hJ : own_J Z vm h) (W : Wr h h' x sl v) (hA : own_Apart vm x) (E : Exa Z h x "java/lang/String") (wi : (Jvm.Cond.instantiable "java/lang/String" n).before a0 Z = true) : own_J Z vm h' := own_JkeepS hZ hJ (Keep.of_wr W) hA E wi
theorem own_litFacts {Z : State} {vm : Vm} {h : Heap} {a : Addr} {units : Array UInt16} {text : String} (hW : Z.Warmed39 vm) (H : SlOf (own_at Z vm h) a units) (hu : utf16ToString? units = some text) (ht : ∀ c ∈ text.toList, c.toNat < 256) :
    ∃ (b : Addr) (k : ClassId), Exa Z h a "java/lang/String" ∧ Fld Z h a "java/lang/String" "coder" "B" (.int 0) ∧ Fld Z h a "java/lang/String" "value" "[B" (.ref b) ∧ Arv Z h b k .byte (Int32.ofNat text.toList.length) (text.toList.map fun c => Value.int c.toNat.toUInt16.toUInt8.toInt8.toInt32) (.int 0) := by
  have e := Jvm.ClassFile.units_of_text hu ht
  obtain ⟨b, k, h1, h2, h3, h4⟩ := own_slFacts hW H (Jvm.ClassFile.lat_of_text hu ht)
  refine ⟨b, k, h1, h2, h3, ?_⟩
  have e2 : units.size = text.toList.length := by rw [← Array.length_toList, e, List.length_map]
  rw [e, List.map_map, e2] at h4
  exact h4
/-- the run from U comes to a return whose value, heap and written places Q takes; it has made at most kc cells of ks slots; String constants may have been resolved on the way -/
def own_GoW (p : Program) (e : Env) (below : List Frame) (s Z : State) (Q : Option Value → Heap → List Loc → Prop) (kc ks : Nat) (U : State) : Prop :=
  ∃ t o, Steps p.tables e below U t ∧ t.status = .running ∧ Ended t below o ∧ ∃ v L, o = .returned v ∧ (Q v t.heap L ∧ own_J Z t.vm t.heap) ∧ ReturnedEndW s o t L kc ks
section OwnKitW
variable {p : Program} {l : Launch} {e : Env} {R : Room} {s : State} {vm0 : Vm} {m : MethodId} {args : Array Value} {below : List Frame} {meth : Method} {c : Code} {T : State} {locs : List Loc} {cells slots kc ks : Nat} {Z : State} {a0 : Array Value} {h : Heap} {Q : Option Value → Heap → List Loc → Prop}
theorem own_since {vm : Vm} {k k' : Nat} (hS : s.Since vm k) (q : k ≤ k') : s.Since vm k' := ⟨hS.1, fun j p hj hp => ⟨(hS.2 j p hj hp).1, Nat.lt_of_lt_of_le (hS.2 j p hj hp).2 q⟩⟩
theorem own_goW {U U' : State} (f : ∀ t, Steps p.tables e below U' t → Steps p.tables e below U t) (g : own_GoW p e below s Z Q kc ks U') : own_GoW p e below s Z Q kc ks U := by
  obtain ⟨t, o, a, r⟩ := g
  exact ⟨t, o, f t a, r⟩
theorem own_sameMono {L : List Loc} {k n : Nat} {t : State} (hq : s.sameButNew t L k n) (hc : k ≤ kc) (hs : n ≤ ks) : s.sameButNew t L kc ks := hq.mono hc hs
theorem own_endW (X : Stand p l e R (s.setVm vm0) m args below meth c T locs cells slots) (hS : s.Since vm0 h.size) (hL : own_L Z a0) (hZ : Z.Warmed39 (s.setVm vm0).vm) (hJ : own_J Z vm0 h) (hlk : meth.locks = false) (eT : T.heap = h) {v : Option Value} (hv : meth.sig.returnType = none → v = none) (hc : cells ≤ kc) (hs : slots ≤ ks) (hq : Q v h locs) {U : State}
    (hst : ∀ fs, (∀ (f : JFrame) (acts : List Action), f.method = m → f.locked = none → f.entered = [] → (doReturn e (T.setTop f) acts v).1 = T.setFrames fs) → Steps p.tables e below U (T.setFrames fs)) : own_GoW p e below s Z Q kc ks U := by
  obtain ⟨fs, hr, hrun, hended, h1, h2, h3, h4⟩ := X.leaveW hS (by rw [eT]; exact Nat.le_refl _) (v := v) hv hlk
  refine ⟨_, _, hst fs hr, hrun, hended, v, locs, rfl, ⟨?_, ?_⟩, h1, h2, h3, own_sameMono h4 hc hs⟩
  · show Q v T.heap locs
    rw [eT]; exact hq
  · show own_J Z T.vm T.heap
    rw [eT]; exact own_Jwarm hL hZ hJ X.warmed
theorem own_retNW (X : Stand p l e R (s.setVm vm0) m args below meth c T locs cells slots) (hS : s.Since vm0 h.size) (hL : own_L Z a0) (hZ : Z.Warmed39 (s.setVm vm0).vm) (hJ : own_J Z vm0 h) (hx : p.tables.exec = Jvm.exec) (hlk : meth.locks = false) (eT : T.heap = h) {pc : Nat} {Ls : Array Slot} {z : Int32} {t : FieldType} {rest : List Value} (hret : meth.sig.returnType = some t) (ht : t = .boolean ∨ t = .byte ∨ t = .char ∨ t = .short)
    (hd : decode c.code pc = .ok (.ireturn, 1)) (hc : cells ≤ kc) (hs : slots ≤ ks) (hq : Q (some (.int (nar t z))) h locs) : own_GoW p e below s Z Q kc ks (T.setTop (mkF m pc Ls (.int z :: rest))) :=
  own_endW X hS hL hZ hJ hlk eT (fun q => by rw [hret] at q; cases q) hc hs hq fun fs hr => retN X hx hret ht hd hr
theorem own_retIW (X : Stand p l e R (s.setVm vm0) m args below meth c T locs cells slots) (hS : s.Since vm0 h.size) (hL : own_L Z a0) (hZ : Z.Warmed39 (s.setVm vm0).vm) (hJ : own_J Z vm0 h) (hx : p.tables.exec = Jvm.exec) (hlk : meth.locks = false) (eT : T.heap = h) {pc : Nat} {Ls : Array Slot} {z : Int32} {rest : List Value} (hret : meth.sig.returnType = some .int)
    (hd : decode c.code pc = .ok (.ireturn, 1)) (hc : cells ≤ kc) (hs : slots ≤ ks) (hq : Q (some (.int z)) h locs) : own_GoW p e below s Z Q kc ks (T.setTop (mkF m pc Ls (.int z :: rest))) :=
  own_endW X hS hL hZ hJ hlk eT (fun q => by rw [hret] at q; cases q) hc hs hq fun fs hr => retOut X hx hret rfl (Or.inl ⟨rfl, Or.inl rfl, z, rfl⟩) hd hr
theorem own_retJW (X : Stand p l e R (s.setVm vm0) m args below meth c T locs cells slots) (hS : s.Since vm0 h.size) (hL : own_L Z a0) (hZ : Z.Warmed39 (s.setVm vm0).vm) (hJ : own_J Z vm0 h) (hx : p.tables.exec = Jvm.exec) (hlk : meth.locks = false) (eT : T.heap = h) {pc : Nat} {Ls : Array Slot} {z : Int64} {rest : List Value} (hret : meth.sig.returnType = some .long)
    (hd : decode c.code pc = .ok (.lreturn, 1)) (hc : cells ≤ kc) (hs : slots ≤ ks) (hq : Q (some (.long z)) h locs) : own_GoW p e below s Z Q kc ks (T.setTop (mkF m pc Ls (.long z :: rest))) :=
  own_endW X hS hL hZ hJ hlk eT (fun q => by rw [hret] at q; cases q) hc hs hq fun fs hr => retOut X hx hret rfl (Or.inr (Or.inl ⟨rfl, rfl, z, rfl⟩)) hd hr
theorem own_retAW (X : Stand p l e R (s.setVm vm0) m args below meth c T locs cells slots) (hS : s.Since vm0 h.size) (hL : own_L Z a0) (hZ : Z.Warmed39 (s.setVm vm0).vm) (hJ : own_J Z vm0 h) (hx : p.tables.exec = Jvm.exec) (hlk : meth.locks = false) (eT : T.heap = h) {pc : Nat} {Ls : Array Slot} {v : Value} {t : FieldType} {rest : List Value} (hret : meth.sig.returnType = some t) (ht : t.isReference = true) (hv : v.isRef = true)
    (hd : decode c.code pc = .ok (.areturn, 1)) (hc : cells ≤ kc) (hs : slots ≤ ks) (hq : Q (some v) h locs) : own_GoW p e below s Z Q kc ks (T.setTop (mkF m pc Ls (v :: rest))) :=
  own_endW X hS hL hZ hJ hlk eT (fun q => by rw [hret] at q; cases q) hc hs hq fun fs hr => retOut X hx hret (by cases t <;> first | (cases ht; done) | (rcases ref_cases hv with rfl | ⟨_, rfl⟩ <;> rfl)) (Or.inr (Or.inr (Or.inr (Or.inr ⟨rfl, ht, hv⟩)))) hd hr
theorem own_retVW (X : Stand p l e R (s.setVm vm0) m args below meth c T locs cells slots) (hS : s.Since vm0 h.size) (hL : own_L Z a0) (hZ : Z.Warmed39 (s.setVm vm0).vm) (hJ : own_J Z vm0 h) (hx : p.tables.exec = Jvm.exec) (hlk : meth.locks = false) (eT : T.heap = h) {pc : Nat} {Ls : Array Slot} (hret : meth.sig.returnType = none)
    (hd : decode c.code pc = .ok (.return_, 1)) (hc : cells ≤ kc) (hs : slots ≤ ks) (hq : Q none h locs) : own_GoW p e below s Z Q kc ks (T.setTop (mkF m pc Ls [])) :=
  own_endW X hS hL hZ hJ hlk eT (fun _ => rfl) hc hs hq fun fs hr => X.returnOut hx hret hd hr
theorem own_metW {y : MethodName} {bytes : ByteArray} {maxL : Nat} {ret : Option FieldType} {ws : List Jvm.Cond} {rm : Room} {as' : Array Value} (kc ks : Nat) (hpl : plainFor y = true)
    (body : ∀ (p : Program) (e : Env) (s : State) (vm0 : Vm) (m : MethodId) (below : List Frame) (meth : Method) (c : Code) (T : State), Stand p l e rm (s.setVm vm0) m as' below meth c T [] 0 0 → s.Since vm0 h.size → own_J Z vm0 h → own_J Z s.vm s.heap → Z.Warmed39 s.vm → IB s vm0 [] → s.heap = h → p.tables.exec = Jvm.exec → c.code = bytes → c.maxLocals = maxL → meth.sig.returnType = ret → meth.locks = false → Z.Warmed39 (s.setVm vm0).vm → (s.setVm vm0).vm.findClass y.cls = some m.cls → meth.name = y.name → T.heap = h →
      own_GoW p e below s Z Q kc ks (T.setTop (entryFrame m as' maxL))) :
    MetFree l y (head1 (Jvm.Cond.code y bytes maxL ret :: ws) rm) (fun a U => a = as' ∧ Z.Warmed39 U.vm ∧ U.heap = h ∧ own_J Z U.vm U.heap) (fun _ _ _ _ _ => True) (fun _ U o U' => ∃ v L, o = .returned v ∧ (Q v U'.heap L ∧ own_J Z U'.vm U'.heap) ∧ ReturnedEndW U o U' L kc ks) := by
  refine MetFree.of_bodySF hpl hisR ?_
  intro p e s m args below meth c s₁ Bd hml hP hK
  obtain ⟨rfl, hZ, hh, hJ⟩ := hP
  obtain ⟨t, o, h1, h2, h3, h4⟩ := body p e s s.vm m below meth c s₁ (Stand.of_body Bd) ((State.WarmedH.refl s).since _) (by rw [← hh]; exact hJ) hJ hZ IB.start hh Bd.exec Bd.bytes hml Bd.returns Bd.notSynchronized hZ (findClass_of_methodNamed Bd.named) (name_of_methodNamed Bd.named Bd.method).1 (by rw [← hh, Bd.state]; rfl)
  exact ⟨t, o, h1, h2, h3, h4⟩
abbrev own_MetW (l : Launch) (Z : State) (h : Heap) (y : MethodName) (bytes : ByteArray) (maxL : Nat) (ret : Option FieldType) (rm : Room) (as' : Array Value) (Q : Option Value → Heap → List Loc → Prop) : Prop :=
  MetFree l y (head1 [Jvm.Cond.code y bytes maxL ret] rm) (fun a U => a = as' ∧ Z.Warmed39 U.vm ∧ U.heap = h ∧ own_J Z U.vm U.heap) (fun _ _ _ _ _ => True) (fun _ U o U' => ∃ v L, o = .returned v ∧ (Q v U'.heap L ∧ own_J Z U'.vm U'.heap) ∧ ReturnedEndW U o U' L rm.cells rm.slots)
end OwnKitW
section OwnBackJ
variable {p : Program} {l : Launch} {e : Env} {R : Room} {s : State} {vm0 : Vm} {m : MethodId} {args : Array Value} {below : List Frame} {meth : Method} {c : Code} {T : State} {locs : List Loc} {cells slots kc ks : Nat} {Z : State} {a0 : Array Value} {h : Heap} {Q : Option Value → Heap → List Loc → Prop}
theorem own_backJ {y : MethodName} {bytes : ByteArray} {maxL : Nat} {ret : Option FieldType} {rm : Room} {len W : Nat} {as' : Array Value} (hM : own_MetW l Z h y bytes maxL ret rm as' Q) (L : own_L Z a0)
    (hZ : Z.Warmed39 s.vm) (hJ : own_J Z s.vm h) (wc : (Jvm.Cond.code y bytes maxL ret).before a0 Z = true) (wz : (Jvm.Cond.initialized y.cls).before a0 Z = true) (hf : rm.frames + 1 ≤ R.frames) (hl : W + (maxL + 11) + rm.locals ≤ R.locals) :
    BackS l R p e below s args y len W (fun A a => a = as' ∧ A.U.heap = h ∧ A.cells + rm.cells ≤ R.cells ∧ A.slots + rm.slots ≤ R.slots)
      (fun A _ v B => ∃ L, (Q v B.U.heap L ∧ own_J Z B.U.vm B.U.heap) ∧ B.locs = A.locs ++ L ∧ B.cells = A.cells + rm.cells ∧ B.slots = A.slots + rm.slots) :=
  BackS.of_freeW (bytes := bytes) (maxL := maxL) (ret := ret) (E := fun _ _ o t L k n => k = rm.cells ∧ n = rm.slots ∧ ∃ v, o = .returned v ∧ (Q v t.heap L ∧ own_J Z t.vm t.heap)) hM hf hl
    (fun m meth c A a Y hp => have hU : Z.Warmed39 A.U.vm := wtrans hZ Y.warmed
      ⟨by show (Jvm.Cond.and _ .tt).before a A.U = true; rw [Cond.before_and, mv hU wc]; rfl, mv hU wc, mv hU wz, hp.2.2.1, hp.2.2.2⟩)
    (fun m meth c A a g mk Y hp => ⟨hp.1, wtrans hZ Y.warmed, hp.2.1, by
      have q : own_J Z A.U.vm h := own_Jwarm (s := s) L hZ hJ Y.warmed
      rw [← hp.2.1] at q; exact q⟩) (fun _ _ _ _ _ _ _ _ _ => trivial)
    (fun _ _ _ _ ⟨v, L, h1, h2, h3⟩ => ⟨L, _, _, h3, rfl, rfl, v, h1, h2⟩)
    (fun m meth c A a g mk v t L k n Y hp _ _ ⟨e1, e2, v', e3, e4⟩ => by cases e3; subst e1 e2; exact ⟨L, e4, rfl, rfl, rfl⟩)
end OwnBackJ
section OwnKitW2
variable {p : Program} {l : Launch} {e : Env} {R : Room} {s : State} {vm0 : Vm} {m : MethodId} {args : Array Value} {below : List Frame} {meth : Method} {c : Code} {T : State} {locs : List Loc} {cells slots kc ks : Nat} {Z : State} {a0 : Array Value} {h : Heap} {Q : Option Value → Heap → List Loc → Prop}
theorem own_callSW {y : MethodName} {bytes : ByteArray} {maxL : Nat} {ret : Option FieldType} {rm : Room} {as' : Array Value} {own : String} {index : Nat} (X : Stand p l e R (s.setVm vm0) m args below meth c T locs cells slots) (hS : s.Since vm0 h.size) (hL : own_L Z a0) (hJ : own_J Z vm0 h) (hx : p.tables.exec = Jvm.exec) (hZ : Z.Warmed39 (s.setVm vm0).vm) (hown : (s.setVm vm0).vm.findClass own = some m.cls)
    (w1 : (Jvm.Cond.methodLink own index y).before a0 Z = true) (w2 : (Jvm.Cond.static y).before a0 Z = true) (w3 : (Jvm.Cond.initialized y.cls).before a0 Z = true) (w4 : (Jvm.Cond.code y bytes maxL ret).before a0 Z = true) (hM : own_MetW l Z h y bytes maxL ret rm as' Q) (W : Nat) (nc ns : Nat) 
    (hc : cells + nc ≤ R.cells) (hs : slots + ns ≤ R.slots) (eT : T.heap = h) {g : JFrame} (hg : g.method = m) (hsize : g.locals.size = c.maxLocals)
    (argsL rest : List Value) (hlen : ∀ sig, parseMethodDescriptor y.desc = some sig → argsL.length = sig.parameters.length) (hstack : g.stack = argsL.reverse ++ rest) (has : argsL.toArray = as') (hdg : decode c.code g.pc = .ok (.invokestatic index, 3))
    (hy : y.cls ≠ "java/lang/invoke/MethodHandle" ∧ y.cls ≠ "java/lang/invoke/VarHandle" := by decide) (hf : rm.frames + 1 ≤ R.frames := by decide) (hl : W + (maxL + 11) + rm.locals ≤ R.locals := by decide) (hW : 2 * g.monitorRoom + (rest.map fun v => v.category).sum ≤ W := by exact Nat.le_of_eq rfl) (hnc : rm.cells = nc := by rfl) (hns : rm.slots = ns := by rfl) :
    ∃ v T' L, Stand p l e R (s.setVm T'.vm) m args below meth c T' (locs ++ L) (cells + nc) (slots + ns) ∧ s.Since T'.vm T'.heap.size ∧ Z.Warmed39 (s.setVm T'.vm).vm ∧ (s.setVm T'.vm).vm.findClass own = some m.cls ∧ Q v T'.heap L ∧ own_J Z T'.vm T'.heap ∧ ∀ target, Steps p.tables e below (T'.setTop { g with pc := g.pc + 3, stack := v.toList ++ rest }) target → Steps p.tables e below (T.setTop g) target := by
  subst hnc hns
  obtain ⟨v, _, ⟨T', L', k', n'⟩, -, X', hS', hgr, ⟨L, ⟨hQ, hJ'⟩, h1, h2, h3⟩, st⟩ := callSS X hx hown (mvT hZ w1) (mvT hZ w2) (mvT hZ w3) (mvT hZ w4) hy (own_backJ (W := W) hM hL hZ hJ w4 w3 hf hl) hg hsize hlen hstack hW hdg (fun _ _ => ⟨has, eT, hc, hs⟩)
  dsimp only [Pt.U, Pt.locs, Pt.cells, Pt.slots] at X' hS' hgr hQ hJ' h1 h2 h3 st
  subst h1 h2 h3
  have hS2 : s.Since T'.vm T'.heap.size := hS.trans hS' (by rw [← eT]; exact hgr)
  exact ⟨v, T', L, X', hS2, State.Warmed39.trans (t := s.setVm vm0) hZ hS'.1, by rw [show (s.setVm T'.vm).vm = T'.vm from rfl, hS'.1.alike.findClass]; exact hown, hQ, hJ', fun _ k => st.trans k⟩
theorem own_callIW {y : MethodName} {bytes : ByteArray} {maxL : Nat} {rm : Room} {as' : Array Value} {own : String} {index : Nat} (X : Stand p l e R (s.setVm vm0) m args below meth c T locs cells slots) (hS : s.Since vm0 h.size) (hL : own_L Z a0) (hJ : own_J Z vm0 h) (hx : p.tables.exec = Jvm.exec) (hZ : Z.Warmed39 (s.setVm vm0).vm) (hown : (s.setVm vm0).vm.findClass own = some m.cls)
    (w1 : (Jvm.Cond.methodLink own index y).before a0 Z = true) (w2 : (Jvm.Cond.instanceMethod y).before a0 Z = true) (w3 : (Jvm.Cond.initialized y.cls).before a0 Z = true) (w4 : (Jvm.Cond.code y bytes maxL none).before a0 Z = true) (hM : own_MetW l Z h y bytes maxL none rm as' Q) (W : Nat) (nc ns : Nat) (hy1 : y.name = "<init>")
    (hc : cells + nc ≤ R.cells) (hs : slots + ns ≤ R.slots) (eT : T.heap = h) {g : JFrame} (hg : g.method = m) (hsize : g.locals.size = c.maxLocals)
    (a : Addr) (argsL rest : List Value) (hlen : ∀ sig, parseMethodDescriptor y.desc = some sig → argsL.length = sig.parameters.length) (hstack : g.stack = argsL.reverse ++ .ref a :: rest) (has : (Value.ref a :: argsL).toArray = as') (hdg : decode c.code g.pc = .ok (.invokespecial index, 3))
    (hy : y.cls ≠ "java/lang/invoke/MethodHandle" ∧ y.cls ≠ "java/lang/invoke/VarHandle" := by decide) (hf : rm.frames + 1 ≤ R.frames := by decide) (hl : W + (maxL + 11) + rm.locals ≤ R.locals := by decide) (hW : 2 * g.monitorRoom + (rest.map fun v => v.category).sum ≤ W := by exact Nat.le_of_eq rfl) (hnc : rm.cells = nc := by rfl) (hns : rm.slots = ns := by rfl) :
    ∃ v T' L, Stand p l e R (s.setVm T'.vm) m args below meth c T' (locs ++ L) (cells + nc) (slots + ns) ∧ s.Since T'.vm T'.heap.size ∧ Z.Warmed39 (s.setVm T'.vm).vm ∧ (s.setVm T'.vm).vm.findClass own = some m.cls ∧ Q v T'.heap L ∧ own_J Z T'.vm T'.heap ∧ ∀ target, Steps p.tables e below (T'.setTop { g with pc := g.pc + 3, stack := v.toList ++ rest }) target → Steps p.tables e below (T.setTop g) target := by
  subst hnc hns
  obtain ⟨v, _, ⟨T', L', k', n'⟩, -, X', hS', hgr, ⟨L, ⟨hQ, hJ'⟩, h1, h2, h3⟩, st⟩ := X.specialBackS hx hy1 hown (mvT hZ w1) (mvT hZ w2) (mvT hZ w4) hy (own_backJ (W := W) hM hL hZ hJ w4 w3 hf hl) hg hsize (Steps.refl _) (a := a) (argsL := argsL) (rest := rest) hlen hstack hW hdg (fun _ _ => ⟨has, eT, hc, hs⟩)
  dsimp only [Pt.U, Pt.locs, Pt.cells, Pt.slots] at X' hS' hgr hQ hJ' h1 h2 h3 st
  subst h1 h2 h3
  have hS2 : s.Since T'.vm T'.heap.size := hS.trans hS' (by rw [← eT]; exact hgr)
  exact ⟨v, T', L, X', hS2, State.Warmed39.trans (t := s.setVm vm0) hZ hS'.1, by rw [show (s.setVm T'.vm).vm = T'.vm from rfl, hS'.1.alike.findClass]; exact hown, hQ, hJ', fun _ k => st.trans k⟩
theorem own_callVW {y z : MethodName} {bytes : ByteArray} {maxL : Nat} {ret : Option FieldType} {rm : Room} {as' : Array Value} {own C : String} {index : Nat} (X : Stand p l e R (s.setVm vm0) m args below meth c T locs cells slots) (hS : s.Since vm0 h.size) (hL : own_L Z a0) (hJ : own_J Z vm0 h) (hx : p.tables.exec = Jvm.exec) (hZ : Z.Warmed39 (s.setVm vm0).vm) (hown : (s.setVm vm0).vm.findClass own = some m.cls)
    (w1 : (Jvm.Cond.methodLink own index y).before a0 Z = true) (wd : (Jvm.Cond.declares y).before a0 Z = true) (nf : NotFace (s.setVm vm0) y) (wsel : (Jvm.Cond.selects C y z).before a0 Z = true) (w2 : (Jvm.Cond.instanceMethod z).before a0 Z = true) (w3 : (Jvm.Cond.initialized z.cls).before a0 Z = true) (w4 : (Jvm.Cond.code z bytes maxL ret).before a0 Z = true) (hM : own_MetW l Z h z bytes maxL ret rm as' Q) (W : Nat) (nc ns : Nat) 
    (hc : cells + nc ≤ R.cells) (hs : slots + ns ≤ R.slots) (eT : T.heap = h) {a : Addr} (E : Exa Z h a C) {g : JFrame} (hg : g.method = m) (hsize : g.locals.size = c.maxLocals)
    (argsL rest : List Value) (hlen : ∀ sig, parseMethodDescriptor y.desc = some sig → argsL.length = sig.parameters.length) (hstack : g.stack = argsL.reverse ++ .ref a :: rest) (has : (Value.ref a :: argsL).toArray = as') (hdg : decode c.code g.pc = .ok (.invokevirtual index, 3))
    (hy : y.cls ≠ "java/lang/invoke/MethodHandle" ∧ y.cls ≠ "java/lang/invoke/VarHandle" := by decide) (hf : rm.frames + 1 ≤ R.frames := by decide) (hl : W + (maxL + 11) + rm.locals ≤ R.locals := by decide) (hW : 2 * g.monitorRoom + (rest.map fun v => v.category).sum ≤ W := by exact Nat.le_of_eq rfl) (hnc : rm.cells = nc := by rfl) (hns : rm.slots = ns := by rfl) :
    ∃ v T' L, Stand p l e R (s.setVm T'.vm) m args below meth c T' (locs ++ L) (cells + nc) (slots + ns) ∧ s.Since T'.vm T'.heap.size ∧ Z.Warmed39 (s.setVm T'.vm).vm ∧ (s.setVm T'.vm).vm.findClass own = some m.cls ∧ Q v T'.heap L ∧ own_J Z T'.vm T'.heap ∧ ∀ target, Steps p.tables e below (T'.setTop { g with pc := g.pc + 3, stack := v.toList ++ rest }) target → Steps p.tables e below (T.setTop g) target := by
  subst hnc hns
  obtain ⟨cq, kq, qa, qb, qc⟩ := isOf hZ eT E
  obtain ⟨v, _, ⟨T', L', k', n'⟩, -, X', hS', hgr, ⟨L, ⟨hQ, hJ'⟩, h1, h2, h3⟩, st⟩ := X.virtualBackS hx hown (mvT hZ w1) (mvT hZ wd) nf (mvT hZ wsel) (mvT hZ w2) hy (own_backJ (W := W) hM hL hZ hJ w4 w3 hf hl) qa qc hg hsize (Steps.refl _) (argsL := argsL) (rest := rest) hlen hstack hW hdg (fun _ _ => ⟨has, eT, hc, hs⟩)
  dsimp only [Pt.U, Pt.locs, Pt.cells, Pt.slots] at X' hS' hgr hQ hJ' h1 h2 h3 st
  subst h1 h2 h3
  have hS2 : s.Since T'.vm T'.heap.size := hS.trans hS' (by rw [← eT]; exact hgr)
  exact ⟨v, T', L, X', hS2, State.Warmed39.trans (t := s.setVm vm0) hZ hS'.1, by rw [show (s.setVm T'.vm).vm = T'.vm from rfl, hS'.1.alike.findClass]; exact hown, hQ, hJ', fun _ k => st.trans k⟩
theorem own_callPW {y : MethodName} {bytes : ByteArray} {maxL : Nat} {ret : Option FieldType} {rm : Room} {as' : Array Value} {own C : String} {index : Nat} (X : Stand p l e R (s.setVm vm0) m args below meth c T locs cells slots) (hS : s.Since vm0 h.size) (hL : own_L Z a0) (hJ : own_J Z vm0 h) (hx : p.tables.exec = Jvm.exec) (hZ : Z.Warmed39 (s.setVm vm0).vm) (hown : (s.setVm vm0).vm.findClass own = some m.cls)
    (w1 : (Jvm.Cond.methodLink own index y).before a0 Z = true) (w2 : (Jvm.Cond.instanceMethod y).before a0 Z = true) (wsel : (Jvm.Cond.selects y.cls y y).before a0 Z = true) (wp : (Jvm.Cond.privateMethod y).before a0 Z = true) (w3 : (Jvm.Cond.initialized y.cls).before a0 Z = true) (w4 : (Jvm.Cond.code y bytes maxL ret).before a0 Z = true) (hM : own_MetW l Z h y bytes maxL ret rm as' Q) (W : Nat) (nc ns : Nat) 
    (hc : cells + nc ≤ R.cells) (hs : slots + ns ≤ R.slots) (eT : T.heap = h) {a : Addr} (E : Exa Z h a C) {g : JFrame} (hg : g.method = m) (hsize : g.locals.size = c.maxLocals)
    (argsL rest : List Value) (hlen : ∀ sig, parseMethodDescriptor y.desc = some sig → argsL.length = sig.parameters.length) (hstack : g.stack = argsL.reverse ++ .ref a :: rest) (has : (Value.ref a :: argsL).toArray = as') (hdg : decode c.code g.pc = .ok (.invokevirtual index, 3))
    (hy : y.cls ≠ "java/lang/invoke/MethodHandle" ∧ y.cls ≠ "java/lang/invoke/VarHandle" := by decide) (hf : rm.frames + 1 ≤ R.frames := by decide) (hl : W + (maxL + 11) + rm.locals ≤ R.locals := by decide) (hW : 2 * g.monitorRoom + (rest.map fun v => v.category).sum ≤ W := by exact Nat.le_of_eq rfl) (hnc : rm.cells = nc := by rfl) (hns : rm.slots = ns := by rfl) :
    ∃ v T' L, Stand p l e R (s.setVm T'.vm) m args below meth c T' (locs ++ L) (cells + nc) (slots + ns) ∧ s.Since T'.vm T'.heap.size ∧ Z.Warmed39 (s.setVm T'.vm).vm ∧ (s.setVm T'.vm).vm.findClass own = some m.cls ∧ Q v T'.heap L ∧ own_J Z T'.vm T'.heap ∧ ∀ target, Steps p.tables e below (T'.setTop { g with pc := g.pc + 3, stack := v.toList ++ rest }) target → Steps p.tables e below (T.setTop g) target := by
  subst hnc hns
  obtain ⟨cq, q1, q2⟩ := E.cell
  obtain ⟨v, _, ⟨T', L', k', n'⟩, -, X', hS', hgr, ⟨L, ⟨hQ, hJ'⟩, h1, h2, h3⟩, st⟩ := X.privateBackS hx hown (mvT hZ w1) (mvT hZ w2) (mvT hZ wsel) (Cond.privateMethod_at (mvP hZ wp (args := #[]))) (mvT hZ w4) hy (own_backJ (W := W) hM hL hZ hJ w4 w3 hf hl) hg hsize (Steps.refl _) (a := a) (by rw [eT]; exact q1) q2 (argsL := argsL) (rest := rest) hlen hstack hW hdg (fun _ _ => ⟨has, eT, hc, hs⟩)
  dsimp only [Pt.U, Pt.locs, Pt.cells, Pt.slots] at X' hS' hgr hQ hJ' h1 h2 h3 st
  subst h1 h2 h3
  have hS2 : s.Since T'.vm T'.heap.size := hS.trans hS' (by rw [← eT]; exact hgr)
  exact ⟨v, T', L, X', hS2, State.Warmed39.trans (t := s.setVm vm0) hZ hS'.1, by rw [show (s.setVm T'.vm).vm = T'.vm from rfl, hS'.1.alike.findClass]; exact hown, hQ, hJ', fun _ k => st.trans k⟩
theorem own_callFW {xi y : MethodName} {bytes : ByteArray} {maxL : Nat} {ret : Option FieldType} {rm : Room} {as' : Array Value} {own C : String} {index count : Nat} (X : Stand p l e R (s.setVm vm0) m args below meth c T locs cells slots) (hS : s.Since vm0 h.size) (hL : own_L Z a0) (hJ : own_J Z vm0 h) (hx : p.tables.exec = Jvm.exec) (hZ : Z.Warmed39 (s.setVm vm0).vm) (hown : (s.setVm vm0).vm.findClass own = some m.cls)
    (w1 : (Jvm.Cond.methodLink own index xi).before a0 Z = true) (wd : (Jvm.Cond.declares xi).before a0 Z = true) (wfa : (Jvm.Cond.interfaceMethod xi.cls xi.cls xi.name xi.desc).before a0 Z = true) (wsel : (Jvm.Cond.selects C xi y).before a0 Z = true) (w2 : (Jvm.Cond.instanceMethod y).before a0 Z = true) (wp : (Jvm.Cond.publicMethod y).before a0 Z = true) (wu : (Jvm.Cond.unhidden C xi.name xi.desc).before a0 Z = true) (wk : (Jvm.Cond.castable C xi.cls).before a0 Z = true) (w3 : (Jvm.Cond.initialized y.cls).before a0 Z = true) (w4 : (Jvm.Cond.code y bytes maxL ret).before a0 Z = true) (hfk : ((Jvm.Cond.interfaceMethod xi.cls xi.cls xi.name xi.desc).onTables && (Jvm.Cond.interfaceMethod xi.cls xi.cls xi.name xi.desc).keepsFace) = true) (hM : own_MetW l Z h y bytes maxL ret rm as' Q) (W : Nat) (nc ns : Nat) 
    (hc : cells + nc ≤ R.cells) (hs : slots + ns ≤ R.slots) (eT : T.heap = h) {a : Addr} (E : Exa Z h a C) {g : JFrame} (hg : g.method = m) (hsize : g.locals.size = c.maxLocals)
    (argsL rest : List Value) (hlen : ∀ sig, parseMethodDescriptor xi.desc = some sig → argsL.length = sig.parameters.length) (hstack : g.stack = argsL.reverse ++ .ref a :: rest) (has : (Value.ref a :: argsL).toArray = as') (hdg : decode c.code g.pc = .ok (.invokeinterface index count, 5))
    (hy : xi.cls ≠ "java/lang/invoke/MethodHandle" ∧ xi.cls ≠ "java/lang/invoke/VarHandle" := by decide) (hf : rm.frames + 1 ≤ R.frames := by decide) (hl : W + (maxL + 11) + rm.locals ≤ R.locals := by decide) (hW : 2 * g.monitorRoom + (rest.map fun v => v.category).sum ≤ W := by exact Nat.le_of_eq rfl) (hnc : rm.cells = nc := by rfl) (hns : rm.slots = ns := by rfl) :
    ∃ v T' L, Stand p l e R (s.setVm T'.vm) m args below meth c T' (locs ++ L) (cells + nc) (slots + ns) ∧ s.Since T'.vm T'.heap.size ∧ Z.Warmed39 (s.setVm T'.vm).vm ∧ (s.setVm T'.vm).vm.findClass own = some m.cls ∧ Q v T'.heap L ∧ own_J Z T'.vm T'.heap ∧ ∀ target, Steps p.tables e below (T'.setTop { g with pc := g.pc + 5, stack := v.toList ++ rest }) target → Steps p.tables e below (T.setTop g) target := by
  subst hnc hns
  obtain ⟨cq, kq, qa, qb, qc⟩ := isOf hZ eT E
  obtain ⟨v, _, ⟨T', L', k', n'⟩, -, X', hS', hgr, ⟨L, ⟨hQ, hJ'⟩, h1, h2, h3⟩, st⟩ := X.interfaceBackS hx hown (mvT hZ w1) (mvT hZ wd) (mvT hZ wfa hfk) (mvT hZ wsel) (mvT hZ w2) (mvT hZ wp) (mvT hZ wu) (mvT hZ wk) hy (own_backJ (W := W) hM hL hZ hJ w4 w3 hf hl) qa qb qc hg hsize (Steps.refl _) (argsL := argsL) (rest := rest) hlen hstack hW hdg (fun _ _ => ⟨has, eT, hc, hs⟩)
  dsimp only [Pt.U, Pt.locs, Pt.cells, Pt.slots] at X' hS' hgr hQ hJ' h1 h2 h3 st
  subst h1 h2 h3
  have hS2 : s.Since T'.vm T'.heap.size := hS.trans hS' (by rw [← eT]; exact hgr)
  exact ⟨v, T', L, X', hS2, State.Warmed39.trans (t := s.setVm vm0) hZ hS'.1, by rw [show (s.setVm T'.vm).vm = T'.vm from rfl, hS'.1.alike.findClass]; exact hown, hQ, hJ', fun _ k => st.trans k⟩
theorem own_callUW {y z : MethodName} {bytes : ByteArray} {maxL : Nat} {ret : Option FieldType} {rm : Room} {as' : Array Value} {own owner C : String} {index : Nat} (X : Stand p l e R (s.setVm vm0) m args below meth c T locs cells slots) (hS : s.Since vm0 h.size) (hL : own_L Z a0) (hJ : own_J Z vm0 h) (hx : p.tables.exec = Jvm.exec) (hZ : Z.Warmed39 (s.setVm vm0).vm) (hown : (s.setVm vm0).vm.findClass own = some m.cls)
    (w1 : (Jvm.Cond.methodLink own index y).before a0 Z = true) (wsm : (Jvm.Cond.sameMethod y.cls owner y.name y.desc).before a0 Z = true) (wd : (Jvm.Cond.declares ⟨owner, y.name, y.desc⟩).before a0 Z = true) (wsel : (Jvm.Cond.selects C y z).before a0 Z = true) (w2 : (Jvm.Cond.instanceMethod z).before a0 Z = true) (w3 : (Jvm.Cond.initialized z.cls).before a0 Z = true) (w4 : (Jvm.Cond.code z bytes maxL ret).before a0 Z = true) (hM : own_MetW l Z h z bytes maxL ret rm as' Q) (W : Nat) (nc ns : Nat) 
    (hc : cells + nc ≤ R.cells) (hs : slots + ns ≤ R.slots) (eT : T.heap = h) {a : Addr} (E : Exa Z h a C) {g : JFrame} (hg : g.method = m) (hsize : g.locals.size = c.maxLocals)
    (argsL rest : List Value) (hlen : ∀ sig, parseMethodDescriptor y.desc = some sig → argsL.length = sig.parameters.length) (hstack : g.stack = argsL.reverse ++ .ref a :: rest) (has : (Value.ref a :: argsL).toArray = as') (hdg : decode c.code g.pc = .ok (.invokevirtual index, 3))
    (howner : owner ≠ "java/lang/invoke/MethodHandle" ∧ owner ≠ "java/lang/invoke/VarHandle" := by decide) (hf : rm.frames + 1 ≤ R.frames := by decide) (hl : W + (maxL + 11) + rm.locals ≤ R.locals := by decide) (hW : 2 * g.monitorRoom + (rest.map fun v => v.category).sum ≤ W := by exact Nat.le_of_eq rfl) (hnc : rm.cells = nc := by rfl) (hns : rm.slots = ns := by rfl) :
    ∃ v T' L, Stand p l e R (s.setVm T'.vm) m args below meth c T' (locs ++ L) (cells + nc) (slots + ns) ∧ s.Since T'.vm T'.heap.size ∧ Z.Warmed39 (s.setVm T'.vm).vm ∧ (s.setVm T'.vm).vm.findClass own = some m.cls ∧ Q v T'.heap L ∧ own_J Z T'.vm T'.heap ∧ ∀ target, Steps p.tables e below (T'.setTop { g with pc := g.pc + 3, stack := v.toList ++ rest }) target → Steps p.tables e below (T.setTop g) target := by
  subst hnc hns
  obtain ⟨cq, kq, qa, qb, qc⟩ := isOf hZ eT E
  obtain ⟨v, _, ⟨T', L', k', n'⟩, -, X', hS', hgr, ⟨L, ⟨hQ, hJ'⟩, h1, h2, h3⟩, st⟩ := X.virtualBackUpS hx hown (mvT hZ w1) (mvT hZ wsm) (mvT hZ wd) howner (mvT hZ wsel) (mvT hZ w2) (own_backJ (W := W) hM hL hZ hJ w4 w3 hf hl) qa qc hg hsize (Steps.refl _) (argsL := argsL) (rest := rest) hlen hstack hW hdg (fun _ _ => ⟨has, eT, hc, hs⟩)
  dsimp only [Pt.U, Pt.locs, Pt.cells, Pt.slots] at X' hS' hgr hQ hJ' h1 h2 h3 st
  subst h1 h2 h3
  have hS2 : s.Since T'.vm T'.heap.size := hS.trans hS' (by rw [← eT]; exact hgr)
  exact ⟨v, T', L, X', hS2, State.Warmed39.trans (t := s.setVm vm0) hZ hS'.1, by rw [show (s.setVm T'.vm).vm = T'.vm from rfl, hS'.1.alike.findClass]; exact hown, hQ, hJ', fun _ k => st.trans k⟩
end OwnKitW2
theorem own_fd0 : parseFieldDescriptor "[B" = some (.array .byte) := by decide +kernel
theorem own_fd1 : parseFieldDescriptor "B" = some .byte := by decide +kernel
theorem own_fd2 : parseFieldDescriptor "J" = some .long := by decide +kernel
theorem own_fd3 : parseFieldDescriptor "Ljava/lang/String;" = some (.object "java/lang/String") := by decide +kernel
theorem own_fd4 : parseFieldDescriptor "Ljava/lang/Long;" = some (.object "java/lang/Long") := by decide +kernel
theorem ow0 {Z : State} {a0 : Array Value} (hw : ∀ d ∈ tables_1, d.before a0 Z = true) : (Jvm.Cond.constant "com/example/countersign/countersign/server/ExchangeSucceededPinLaw" (7 : Nat) (2147483647 : Int32)).before a0 Z = true := hw _ (List.mem_of_getElem? (i := 0) rfl)
theorem ow1 {Z : State} {a0 : Array Value} (hw : ∀ d ∈ tables_1, d.before a0 Z = true) : (Jvm.Cond.arrayClass Jvm.ClassFile.FieldType.char).before a0 Z = true := hw _ (List.mem_of_getElem? (i := 1) rfl)
theorem ow2 {Z : State} {a0 : Array Value} (hw : ∀ d ∈ tables_1, d.before a0 Z = true) : (Jvm.Cond.classLink "com/example/countersign/countersign/server/ExchangeSucceededPinLaw" (8 : Nat) "java/lang/String").before a0 Z = true := hw _ (List.mem_of_getElem? (i := 2) rfl)
theorem ow3 {Z : State} {a0 : Array Value} (hw : ∀ d ∈ tables_1, d.before a0 Z = true) : (Jvm.Cond.instantiable "java/lang/String" (4 : Nat)).before a0 Z = true := hw _ (List.mem_of_getElem? (i := 3) rfl)
theorem ow4 {Z : State} {a0 : Array Value} (hw : ∀ d ∈ tables_1, d.before a0 Z = true) : (Jvm.Cond.initialized "java/lang/String").before a0 Z = true := hw _ (List.mem_of_getElem? (i := 4) rfl)
theorem ow5 {Z : State} {a0 : Array Value} (hw : ∀ d ∈ tables_1, d.before a0 Z = true) : (Jvm.Cond.methodLink "com/example/countersign/countersign/server/ExchangeSucceededPinLaw" (10 : Nat) ({ cls := "java/lang/String", name := "<init>", desc := "([C)V" } : Jvm.MethodName)).before a0 Z = true := hw _ (List.mem_of_getElem? (i := 5) rfl)
theorem ow6 {Z : State} {a0 : Array Value} (hw : ∀ d ∈ tables_1, d.before a0 Z = true) : (Jvm.Cond.instanceMethod ({ cls := "java/lang/String", name := "<init>", desc := "([C)V" } : Jvm.MethodName)).before a0 Z = true := hw _ (List.mem_of_getElem? (i := 6) rfl)
theorem ow7 {Z : State} {a0 : Array Value} (hw : ∀ d ∈ tables_1, d.before a0 Z = true) : (Jvm.Cond.code ({ cls := "java/lang/String", name := "<init>", desc := "([C)V" } : Jvm.MethodName) jdk_42_method_3_code (2 : Nat) (Option.none : Option Jvm.ClassFile.FieldType)).before a0 Z = true := hw _ (List.mem_of_getElem? (i := 7) rfl)
theorem ow8 {Z : State} {a0 : Array Value} (hw : ∀ d ∈ tables_1, d.before a0 Z = true) : (Jvm.Cond.methodLink "java/lang/String" (27 : Nat) ({ cls := "java/lang/String", name := "<init>", desc := "([CIILjava/lang/Void;)V" } : Jvm.MethodName)).before a0 Z = true := hw _ (List.mem_of_getElem? (i := 8) rfl)
theorem ow9 {Z : State} {a0 : Array Value} (hw : ∀ d ∈ tables_1, d.before a0 Z = true) : (Jvm.Cond.instanceMethod ({ cls := "java/lang/String", name := "<init>", desc := "([CIILjava/lang/Void;)V" } : Jvm.MethodName)).before a0 Z = true := hw _ (List.mem_of_getElem? (i := 9) rfl)
theorem ow11 {Z : State} {a0 : Array Value} (hw : ∀ d ∈ tables_1, d.before a0 Z = true) : (Jvm.Cond.code ({ cls := "java/lang/String", name := "<init>", desc := "([CIILjava/lang/Void;)V" } : Jvm.MethodName) jdk_42_method_149_code (6 : Nat) (Option.none : Option Jvm.ClassFile.FieldType)).before a0 Z = true := hw _ (List.mem_of_getElem? (i := 11) rfl)
theorem ow12 {Z : State} {a0 : Array Value} (hw : ∀ d ∈ tables_1, d.before a0 Z = true) : (Jvm.Cond.methodLink "java/lang/String" (1 : Nat) ({ cls := "java/lang/Object", name := "<init>", desc := "()V" } : Jvm.MethodName)).before a0 Z = true := hw _ (List.mem_of_getElem? (i := 12) rfl)
theorem ow13 {Z : State} {a0 : Array Value} (hw : ∀ d ∈ tables_1, d.before a0 Z = true) : (Jvm.Cond.instanceMethod ({ cls := "java/lang/Object", name := "<init>", desc := "()V" } : Jvm.MethodName)).before a0 Z = true := hw _ (List.mem_of_getElem? (i := 13) rfl)
theorem ow14 {Z : State} {a0 : Array Value} (hw : ∀ d ∈ tables_1, d.before a0 Z = true) : (Jvm.Cond.code ({ cls := "java/lang/Object", name := "<init>", desc := "()V" } : Jvm.MethodName) object_method_1_code (1 : Nat) (Option.none : Option Jvm.ClassFile.FieldType)).before a0 Z = true := hw _ (List.mem_of_getElem? (i := 14) rfl)
theorem ow15 {Z : State} {a0 : Array Value} (hw : ∀ d ∈ tables_1, d.before a0 Z = true) : (Jvm.Cond.stringLink "java/lang/String" (7 : Nat) "").before a0 Z = true := hw _ (List.mem_of_getElem? (i := 15) rfl)
theorem ow16 {Z : State} {a0 : Array Value} (hw : ∀ d ∈ tables_1, d.before a0 Z = true) : (Jvm.Cond.arrayClass Jvm.ClassFile.FieldType.byte).before a0 Z = true := hw _ (List.mem_of_getElem? (i := 16) rfl)
theorem ow17 {Z : State} {a0 : Array Value} (hw : ∀ d ∈ tables_1, d.before a0 Z = true) : (Jvm.Cond.laysFinal "java/lang/String" "java/lang/String" "value" "[B").before a0 Z = true := hw _ (List.mem_of_getElem? (i := 17) rfl)
theorem ow18 {Z : State} {a0 : Array Value} (hw : ∀ d ∈ tables_1, d.before a0 Z = true) : (Jvm.Cond.laysFinal "java/lang/String" "java/lang/String" "coder" "B").before a0 Z = true := hw _ (List.mem_of_getElem? (i := 18) rfl)
theorem ow19 {Z : State} {a0 : Array Value} (hw : ∀ d ∈ tables_1, d.before a0 Z = true) : (Jvm.Cond.soleField "java/lang/String" "value").before a0 Z = true := hw _ (List.mem_of_getElem? (i := 19) rfl)
theorem ow20 {Z : State} {a0 : Array Value} (hw : ∀ d ∈ tables_1, d.before a0 Z = true) : (Jvm.Cond.soleField "java/lang/String" "coder").before a0 Z = true := hw _ (List.mem_of_getElem? (i := 20) rfl)
theorem ow21 {Z : State} {a0 : Array Value} (hw : ∀ d ∈ tables_1, d.before a0 Z = true) : (Jvm.Cond.fieldLink "java/lang/String" (9 : Nat) "java/lang/String" "value" "[B").before a0 Z = true := hw _ (List.mem_of_getElem? (i := 21) rfl)
theorem ow22 {Z : State} {a0 : Array Value} (hw : ∀ d ∈ tables_1, d.before a0 Z = true) : (Jvm.Cond.fieldLink "java/lang/String" (15 : Nat) "java/lang/String" "coder" "B").before a0 Z = true := hw _ (List.mem_of_getElem? (i := 22) rfl)
theorem ow23 {Z : State} {a0 : Array Value} (hw : ∀ d ∈ tables_1, d.before a0 Z = true) : (Jvm.Cond.classLink "com/example/countersign/countersign/server/ExchangeSucceededPinLaw" (19 : Nat) "com/example/countersign/countersign/server/Exchange").before a0 Z = true := hw _ (List.mem_of_getElem? (i := 23) rfl)
theorem ow24 {Z : State} {a0 : Array Value} (hw : ∀ d ∈ tables_1, d.before a0 Z = true) : (Jvm.Cond.instantiable "com/example/countersign/countersign/server/Exchange" (5 : Nat)).before a0 Z = true := hw _ (List.mem_of_getElem? (i := 24) rfl)
theorem ow25 {Z : State} {a0 : Array Value} (hw : ∀ d ∈ tables_1, d.before a0 Z = true) : (Jvm.Cond.initialized "com/example/countersign/countersign/server/Exchange").before a0 Z = true := hw _ (List.mem_of_getElem? (i := 25) rfl)
theorem ow26 {Z : State} {a0 : Array Value} (hw : ∀ d ∈ tables_1, d.before a0 Z = true) : (Jvm.Cond.methodLink "com/example/countersign/countersign/server/ExchangeSucceededPinLaw" (21 : Nat) ({ cls := "com/example/countersign/countersign/server/Exchange", name := "<init>", desc := "(Ljava/lang/String;Ljava/lang/Long;Ljava/lang/Long;Ljava/lang/Long;Ljava/lang/String;)V" } : Jvm.MethodName)).before a0 Z = true := hw _ (List.mem_of_getElem? (i := 26) rfl)
theorem ow27 {Z : State} {a0 : Array Value} (hw : ∀ d ∈ tables_1, d.before a0 Z = true) : (Jvm.Cond.instanceMethod ({ cls := "com/example/countersign/countersign/server/Exchange", name := "<init>", desc := "(Ljava/lang/String;Ljava/lang/Long;Ljava/lang/Long;Ljava/lang/Long;Ljava/lang/String;)V" } : Jvm.MethodName)).before a0 Z = true := hw _ (List.mem_of_getElem? (i := 27) rfl)
theorem ow28 {Z : State} {a0 : Array Value} (hw : ∀ d ∈ tables_1, d.before a0 Z = true) : (Jvm.Cond.code ({ cls := "com/example/countersign/countersign/server/Exchange", name := "<init>", desc := "(Ljava/lang/String;Ljava/lang/Long;Ljava/lang/Long;Ljava/lang/Long;Ljava/lang/String;)V" } : Jvm.MethodName) prog_24_method_1_code (6 : Nat) (Option.none : Option Jvm.ClassFile.FieldType)).before a0 Z = true := hw _ (List.mem_of_getElem? (i := 28) rfl)
theorem ow29 {Z : State} {a0 : Array Value} (hw : ∀ d ∈ tables_1, d.before a0 Z = true) : (Jvm.Cond.methodLink "com/example/countersign/countersign/server/Exchange" (1 : Nat) ({ cls := "java/lang/Record", name := "<init>", desc := "()V" } : Jvm.MethodName)).before a0 Z = true := hw _ (List.mem_of_getElem? (i := 29) rfl)
theorem ow30 {Z : State} {a0 : Array Value} (hw : ∀ d ∈ tables_1, d.before a0 Z = true) : (Jvm.Cond.instanceMethod ({ cls := "java/lang/Record", name := "<init>", desc := "()V" } : Jvm.MethodName)).before a0 Z = true := hw _ (List.mem_of_getElem? (i := 30) rfl)
theorem ow32 {Z : State} {a0 : Array Value} (hw : ∀ d ∈ tables_1, d.before a0 Z = true) : (Jvm.Cond.initialized "java/lang/Record").before a0 Z = true := hw _ (List.mem_of_getElem? (i := 32) rfl)
theorem ow33 {Z : State} {a0 : Array Value} (hw : ∀ d ∈ tables_1, d.before a0 Z = true) : (Jvm.Cond.code ({ cls := "java/lang/Record", name := "<init>", desc := "()V" } : Jvm.MethodName) jdk_30_method_1_code (1 : Nat) (Option.none : Option Jvm.ClassFile.FieldType)).before a0 Z = true := hw _ (List.mem_of_getElem? (i := 33) rfl)
theorem ow34 {Z : State} {a0 : Array Value} (hw : ∀ d ∈ tables_1, d.before a0 Z = true) : (Jvm.Cond.methodLink "java/lang/Record" (1 : Nat) ({ cls := "java/lang/Object", name := "<init>", desc := "()V" } : Jvm.MethodName)).before a0 Z = true := hw _ (List.mem_of_getElem? (i := 34) rfl)
theorem ow35 {Z : State} {a0 : Array Value} (hw : ∀ d ∈ tables_1, d.before a0 Z = true) : (Jvm.Cond.fieldLink "com/example/countersign/countersign/server/Exchange" (7 : Nat) "com/example/countersign/countersign/server/Exchange" "artefact" "Ljava/lang/String;").before a0 Z = true := hw _ (List.mem_of_getElem? (i := 35) rfl)
theorem ow36 {Z : State} {a0 : Array Value} (hw : ∀ d ∈ tables_1, d.before a0 Z = true) : (Jvm.Cond.laysFinal "com/example/countersign/countersign/server/Exchange" "com/example/countersign/countersign/server/Exchange" "artefact" "Ljava/lang/String;").before a0 Z = true := hw _ (List.mem_of_getElem? (i := 36) rfl)
theorem ow37 {Z : State} {a0 : Array Value} (hw : ∀ d ∈ tables_1, d.before a0 Z = true) : (Jvm.Cond.fieldLink "com/example/countersign/countersign/server/Exchange" (13 : Nat) "com/example/countersign/countersign/server/Exchange" "activatedAt" "Ljava/lang/Long;").before a0 Z = true := hw _ (List.mem_of_getElem? (i := 37) rfl)
theorem ow38 {Z : State} {a0 : Array Value} (hw : ∀ d ∈ tables_1, d.before a0 Z = true) : (Jvm.Cond.laysFinal "com/example/countersign/countersign/server/Exchange" "com/example/countersign/countersign/server/Exchange" "activatedAt" "Ljava/lang/Long;").before a0 Z = true := hw _ (List.mem_of_getElem? (i := 38) rfl)
theorem ow39 {Z : State} {a0 : Array Value} (hw : ∀ d ∈ tables_1, d.before a0 Z = true) : (Jvm.Cond.fieldLink "com/example/countersign/countersign/server/Exchange" (17 : Nat) "com/example/countersign/countersign/server/Exchange" "expiresAt" "Ljava/lang/Long;").before a0 Z = true := hw _ (List.mem_of_getElem? (i := 39) rfl)
theorem ow40 {Z : State} {a0 : Array Value} (hw : ∀ d ∈ tables_1, d.before a0 Z = true) : (Jvm.Cond.laysFinal "com/example/countersign/countersign/server/Exchange" "com/example/countersign/countersign/server/Exchange" "expiresAt" "Ljava/lang/Long;").before a0 Z = true := hw _ (List.mem_of_getElem? (i := 40) rfl)
theorem ow41 {Z : State} {a0 : Array Value} (hw : ∀ d ∈ tables_1, d.before a0 Z = true) : (Jvm.Cond.fieldLink "com/example/countersign/countersign/server/Exchange" (20 : Nat) "com/example/countersign/countersign/server/Exchange" "refreshAt" "Ljava/lang/Long;").before a0 Z = true := hw _ (List.mem_of_getElem? (i := 41) rfl)
theorem ow42 {Z : State} {a0 : Array Value} (hw : ∀ d ∈ tables_1, d.before a0 Z = true) : (Jvm.Cond.laysFinal "com/example/countersign/countersign/server/Exchange" "com/example/countersign/countersign/server/Exchange" "refreshAt" "Ljava/lang/Long;").before a0 Z = true := hw _ (List.mem_of_getElem? (i := 42) rfl)
theorem ow43 {Z : State} {a0 : Array Value} (hw : ∀ d ∈ tables_1, d.before a0 Z = true) : (Jvm.Cond.fieldLink "com/example/countersign/countersign/server/Exchange" (23 : Nat) "com/example/countersign/countersign/server/Exchange" "failure" "Ljava/lang/String;").before a0 Z = true := hw _ (List.mem_of_getElem? (i := 43) rfl)
theorem ow44 {Z : State} {a0 : Array Value} (hw : ∀ d ∈ tables_1, d.before a0 Z = true) : (Jvm.Cond.laysFinal "com/example/countersign/countersign/server/Exchange" "com/example/countersign/countersign/server/Exchange" "failure" "Ljava/lang/String;").before a0 Z = true := hw _ (List.mem_of_getElem? (i := 44) rfl)
theorem ow45 {Z : State} {a0 : Array Value} (hw : ∀ d ∈ tables_1, d.before a0 Z = true) : (Jvm.Cond.methodLink "com/example/countersign/countersign/server/ExchangeSucceededPinLaw" (24 : Nat) ({ cls := "com/example/countersign/countersign/server/Exchange", name := "succeeded", desc := "()Z" } : Jvm.MethodName)).before a0 Z = true := hw _ (List.mem_of_getElem? (i := 45) rfl)
theorem ow46 {Z : State} {a0 : Array Value} (hw : ∀ d ∈ tables_1, d.before a0 Z = true) : (Jvm.Cond.declares ({ cls := "com/example/countersign/countersign/server/Exchange", name := "succeeded", desc := "()Z" } : Jvm.MethodName)).before a0 Z = true := hw _ (List.mem_of_getElem? (i := 46) rfl)
theorem ow47 {Z : State} {a0 : Array Value} (hw : ∀ d ∈ tables_1, d.before a0 Z = true) : (Jvm.Cond.instanceMethod ({ cls := "com/example/countersign/countersign/server/Exchange", name := "succeeded", desc := "()Z" } : Jvm.MethodName)).before a0 Z = true := hw _ (List.mem_of_getElem? (i := 47) rfl)
theorem ow48 {Z : State} {a0 : Array Value} (hw : ∀ d ∈ tables_1, d.before a0 Z = true) : (Jvm.Cond.selects "com/example/countersign/countersign/server/Exchange" ({ cls := "com/example/countersign/countersign/server/Exchange", name := "succeeded", desc := "()Z" } : Jvm.MethodName) ({ cls := "com/example/countersign/countersign/server/Exchange", name := "succeeded", desc := "()Z" } : Jvm.MethodName)).before a0 Z = true := hw _ (List.mem_of_getElem? (i := 48) rfl)
theorem ow49 {Z : State} {a0 : Array Value} (hw : ∀ d ∈ tables_1, d.before a0 Z = true) : (Jvm.Cond.code ({ cls := "com/example/countersign/countersign/server/Exchange", name := "succeeded", desc := "()Z" } : Jvm.MethodName) prog_24_method_5_code (1 : Nat) (Option.some Jvm.ClassFile.FieldType.boolean)).before a0 Z = true := hw _ (List.mem_of_getElem? (i := 49) rfl)
theorem ow50 {Z : State} {a0 : Array Value} (hw : ∀ d ∈ tables_1, d.before a0 Z = true) : (Jvm.Cond.methodLink "com/example/countersign/countersign/server/ExchangeSucceededPinLaw" (28 : Nat) ({ cls := "com/example/countersign/countersign/server/Exchange", name := "failed", desc := "(Ljava/lang/String;)Lcom/example/countersign/countersign/server/Exchange;" } : Jvm.MethodName)).before a0 Z = true := hw _ (List.mem_of_getElem? (i := 50) rfl)
theorem ow51 {Z : State} {a0 : Array Value} (hw : ∀ d ∈ tables_1, d.before a0 Z = true) : (Jvm.Cond.static ({ cls := "com/example/countersign/countersign/server/Exchange", name := "failed", desc := "(Ljava/lang/String;)Lcom/example/countersign/countersign/server/Exchange;" } : Jvm.MethodName)).before a0 Z = true := hw _ (List.mem_of_getElem? (i := 51) rfl)
theorem ow52 {Z : State} {a0 : Array Value} (hw : ∀ d ∈ tables_1, d.before a0 Z = true) : (Jvm.Cond.code ({ cls := "com/example/countersign/countersign/server/Exchange", name := "failed", desc := "(Ljava/lang/String;)Lcom/example/countersign/countersign/server/Exchange;" } : Jvm.MethodName) prog_24_method_4_code (1 : Nat) (Option.some (Jvm.ClassFile.FieldType.object "com/example/countersign/countersign/server/Exchange"))).before a0 Z = true := hw _ (List.mem_of_getElem? (i := 52) rfl)
theorem ow53 {Z : State} {a0 : Array Value} (hw : ∀ d ∈ tables_1, d.before a0 Z = true) : (Jvm.Cond.classLink "com/example/countersign/countersign/server/Exchange" (8 : Nat) "com/example/countersign/countersign/server/Exchange").before a0 Z = true := hw _ (List.mem_of_getElem? (i := 53) rfl)
theorem ow54 {Z : State} {a0 : Array Value} (hw : ∀ d ∈ tables_1, d.before a0 Z = true) : (Jvm.Cond.methodLink "com/example/countersign/countersign/server/Exchange" (32 : Nat) ({ cls := "com/example/countersign/countersign/server/Exchange", name := "<init>", desc := "(Ljava/lang/String;Ljava/lang/Long;Ljava/lang/Long;Ljava/lang/Long;Ljava/lang/String;)V" } : Jvm.MethodName)).before a0 Z = true := hw _ (List.mem_of_getElem? (i := 54) rfl)
theorem ow55 {Z : State} {a0 : Array Value} (hw : ∀ d ∈ tables_1, d.before a0 Z = true) : (Jvm.Cond.methodLink "com/example/countersign/countersign/server/ExchangeSucceededPinLaw" (32 : Nat) ({ cls := "com/example/countersign/countersign/server/Exchange", name := "lasting", desc := "(Ljava/lang/String;J)Lcom/example/countersign/countersign/server/Exchange;" } : Jvm.MethodName)).before a0 Z = true := hw _ (List.mem_of_getElem? (i := 55) rfl)
theorem ow56 {Z : State} {a0 : Array Value} (hw : ∀ d ∈ tables_1, d.before a0 Z = true) : (Jvm.Cond.static ({ cls := "com/example/countersign/countersign/server/Exchange", name := "lasting", desc := "(Ljava/lang/String;J)Lcom/example/countersign/countersign/server/Exchange;" } : Jvm.MethodName)).before a0 Z = true := hw _ (List.mem_of_getElem? (i := 56) rfl)
theorem ow57 {Z : State} {a0 : Array Value} (hw : ∀ d ∈ tables_1, d.before a0 Z = true) : (Jvm.Cond.code ({ cls := "com/example/countersign/countersign/server/Exchange", name := "lasting", desc := "(Ljava/lang/String;J)Lcom/example/countersign/countersign/server/Exchange;" } : Jvm.MethodName) prog_24_method_2_code (3 : Nat) (Option.some (Jvm.ClassFile.FieldType.object "com/example/countersign/countersign/server/Exchange"))).before a0 Z = true := hw _ (List.mem_of_getElem? (i := 57) rfl)
theorem ow58 {Z : State} {a0 : Array Value} (hw : ∀ d ∈ tables_1, d.before a0 Z = true) : (Jvm.Cond.methodLink "com/example/countersign/countersign/server/Exchange" (26 : Nat) ({ cls := "java/lang/Long", name := "valueOf", desc := "(J)Ljava/lang/Long;" } : Jvm.MethodName)).before a0 Z = true := hw _ (List.mem_of_getElem? (i := 58) rfl)
theorem ow59 {Z : State} {a0 : Array Value} (hw : ∀ d ∈ tables_1, d.before a0 Z = true) : (Jvm.Cond.static ({ cls := "java/lang/Long", name := "valueOf", desc := "(J)Ljava/lang/Long;" } : Jvm.MethodName)).before a0 Z = true := hw _ (List.mem_of_getElem? (i := 59) rfl)
theorem ow60 {Z : State} {a0 : Array Value} (hw : ∀ d ∈ tables_1, d.before a0 Z = true) : (Jvm.Cond.initialized "java/lang/Long").before a0 Z = true := hw _ (List.mem_of_getElem? (i := 60) rfl)
theorem ow61 {Z : State} {a0 : Array Value} (hw : ∀ d ∈ tables_1, d.before a0 Z = true) : (Jvm.Cond.code ({ cls := "java/lang/Long", name := "valueOf", desc := "(J)Ljava/lang/Long;" } : Jvm.MethodName) jdk_35_method_24_code (3 : Nat) (Option.some (Jvm.ClassFile.FieldType.object "java/lang/Long"))).before a0 Z = true := hw _ (List.mem_of_getElem? (i := 61) rfl)
theorem ow62 {Z : State} {a0 : Array Value} (hw : ∀ d ∈ tables_1, d.before a0 Z = true) : (Jvm.Cond.constantLong "java/lang/Long" (230 : Nat) (-128 : Int64)).before a0 Z = true := hw _ (List.mem_of_getElem? (i := 62) rfl)
theorem ow63 {Z : State} {a0 : Array Value} (hw : ∀ d ∈ tables_1, d.before a0 Z = true) : (Jvm.Cond.classLink "java/lang/Long" (1 : Nat) "java/lang/Long").before a0 Z = true := hw _ (List.mem_of_getElem? (i := 63) rfl)
theorem ow64 {Z : State} {a0 : Array Value} (hw : ∀ d ∈ tables_1, d.before a0 Z = true) : (Jvm.Cond.instantiable "java/lang/Long" (1 : Nat)).before a0 Z = true := hw _ (List.mem_of_getElem? (i := 64) rfl)
theorem ow65 {Z : State} {a0 : Array Value} (hw : ∀ d ∈ tables_1, d.before a0 Z = true) : (Jvm.Cond.methodLink "java/lang/Long" (240 : Nat) ({ cls := "java/lang/Long", name := "<init>", desc := "(J)V" } : Jvm.MethodName)).before a0 Z = true := hw _ (List.mem_of_getElem? (i := 65) rfl)
theorem ow66 {Z : State} {a0 : Array Value} (hw : ∀ d ∈ tables_1, d.before a0 Z = true) : (Jvm.Cond.instanceMethod ({ cls := "java/lang/Long", name := "<init>", desc := "(J)V" } : Jvm.MethodName)).before a0 Z = true := hw _ (List.mem_of_getElem? (i := 66) rfl)
theorem ow68 {Z : State} {a0 : Array Value} (hw : ∀ d ∈ tables_1, d.before a0 Z = true) : (Jvm.Cond.code ({ cls := "java/lang/Long", name := "<init>", desc := "(J)V" } : Jvm.MethodName) jdk_35_method_26_code (3 : Nat) (Option.none : Option Jvm.ClassFile.FieldType)).before a0 Z = true := hw _ (List.mem_of_getElem? (i := 68) rfl)
theorem ow69 {Z : State} {a0 : Array Value} (hw : ∀ d ∈ tables_1, d.before a0 Z = true) : (Jvm.Cond.methodLink "java/lang/Long" (270 : Nat) ({ cls := "java/lang/Number", name := "<init>", desc := "()V" } : Jvm.MethodName)).before a0 Z = true := hw _ (List.mem_of_getElem? (i := 69) rfl)
theorem ow70 {Z : State} {a0 : Array Value} (hw : ∀ d ∈ tables_1, d.before a0 Z = true) : (Jvm.Cond.instanceMethod ({ cls := "java/lang/Number", name := "<init>", desc := "()V" } : Jvm.MethodName)).before a0 Z = true := hw _ (List.mem_of_getElem? (i := 70) rfl)
theorem ow73 {Z : State} {a0 : Array Value} (hw : ∀ d ∈ tables_1, d.before a0 Z = true) : (Jvm.Cond.initialized "java/lang/Number").before a0 Z = true := hw _ (List.mem_of_getElem? (i := 73) rfl)
theorem ow74 {Z : State} {a0 : Array Value} (hw : ∀ d ∈ tables_1, d.before a0 Z = true) : (Jvm.Cond.code ({ cls := "java/lang/Number", name := "<init>", desc := "()V" } : Jvm.MethodName) jdk_18_method_1_code (1 : Nat) (Option.none : Option Jvm.ClassFile.FieldType)).before a0 Z = true := hw _ (List.mem_of_getElem? (i := 74) rfl)
theorem ow75 {Z : State} {a0 : Array Value} (hw : ∀ d ∈ tables_1, d.before a0 Z = true) : (Jvm.Cond.methodLink "java/lang/Number" (1 : Nat) ({ cls := "java/lang/Object", name := "<init>", desc := "()V" } : Jvm.MethodName)).before a0 Z = true := hw _ (List.mem_of_getElem? (i := 75) rfl)
theorem ow76 {Z : State} {a0 : Array Value} (hw : ∀ d ∈ tables_1, d.before a0 Z = true) : (Jvm.Cond.fieldLink "java/lang/Long" (273 : Nat) "java/lang/Long" "value" "J").before a0 Z = true := hw _ (List.mem_of_getElem? (i := 76) rfl)
theorem ow77 {Z : State} {a0 : Array Value} (hw : ∀ d ∈ tables_1, d.before a0 Z = true) : (Jvm.Cond.laysFinal "java/lang/Long" "java/lang/Long" "value" "J").before a0 Z = true := hw _ (List.mem_of_getElem? (i := 77) rfl)
theorem ow78 {Z : State} {a0 : Array Value} (hw : ∀ d ∈ tables_1, d.before a0 Z = true) : (Jvm.Cond.methodLink "com/example/countersign/countersign/server/ExchangeSucceededPinLaw" (36 : Nat) ({ cls := "com/example/countersign/countersign/server/Exchange", name := "expiring", desc := "(Ljava/lang/String;JJJ)Lcom/example/countersign/countersign/server/Exchange;" } : Jvm.MethodName)).before a0 Z = true := hw _ (List.mem_of_getElem? (i := 78) rfl)
theorem ow79 {Z : State} {a0 : Array Value} (hw : ∀ d ∈ tables_1, d.before a0 Z = true) : (Jvm.Cond.static ({ cls := "com/example/countersign/countersign/server/Exchange", name := "expiring", desc := "(Ljava/lang/String;JJJ)Lcom/example/countersign/countersign/server/Exchange;" } : Jvm.MethodName)).before a0 Z = true := hw _ (List.mem_of_getElem? (i := 79) rfl)
theorem ow80 {Z : State} {a0 : Array Value} (hw : ∀ d ∈ tables_1, d.before a0 Z = true) : (Jvm.Cond.code ({ cls := "com/example/countersign/countersign/server/Exchange", name := "expiring", desc := "(Ljava/lang/String;JJJ)Lcom/example/countersign/countersign/server/Exchange;" } : Jvm.MethodName) prog_24_method_3_code (7 : Nat) (Option.some (Jvm.ClassFile.FieldType.object "com/example/countersign/countersign/server/Exchange"))).before a0 Z = true := hw _ (List.mem_of_getElem? (i := 80) rfl)
theorem ow81 {Z : State} {a0 : Array Value} (hw : ∀ d ∈ tables_1, d.before a0 Z = true) : (Jvm.Cond.constantLong "java/lang/Long" (232 : Nat) (127 : Int64)).before a0 Z = true := hw _ (List.mem_of_getElem? (i := 81) rfl)
theorem ow82 {Z : State} {a0 : Array Value} (hw : ∀ d ∈ tables_1, d.before a0 Z = true) : (Jvm.Cond.fieldLink "java/lang/Long" (234 : Nat) "java/lang/Long$LongCache" "cache" "[Ljava/lang/Long;").before a0 Z = true := hw _ (List.mem_of_getElem? (i := 82) rfl)
theorem ow84 {Z : State} {a0 : Array Value} (hw : ∀ d ∈ tables_1, d.before a0 Z = true) : (Jvm.Cond.methodLink "com/example/countersign/countersign/server/ExchangeSucceededPinLaw" (13 : Nat) ({ cls := "java/lang/Long", name := "valueOf", desc := "(J)Ljava/lang/Long;" } : Jvm.MethodName)).before a0 Z = true := hw _ (List.mem_of_getElem? (i := 84) rfl)
theorem own_sn0 {Z : State} {a0 : Array Value} (hw : ∀ d ∈ tables_1, d.before a0 Z = true) : Jvm.RoadKit.slotOf Z "java/lang/String" "coder" "B" ≠ Jvm.RoadKit.slotOf Z "java/lang/String" "value" "[B" := slot_ne (Or.inr (ow18 hw)) (Or.inr (ow17 hw)) (by decide +kernel) (t := .byte) (t' := (.array .byte)) own_fd1 own_fd0
theorem own_sn1 {Z : State} {a0 : Array Value} (hw : ∀ d ∈ tables_1, d.before a0 Z = true) : Jvm.RoadKit.slotOf Z "com/example/countersign/countersign/server/Exchange" "activatedAt" "Ljava/lang/Long;" ≠ Jvm.RoadKit.slotOf Z "com/example/countersign/countersign/server/Exchange" "artefact" "Ljava/lang/String;" := slot_ne (Or.inr (ow38 hw)) (Or.inr (ow36 hw)) (by decide +kernel) (t := (.object "java/lang/Long")) (t' := (.object "java/lang/String")) own_fd4 own_fd3
theorem own_sn2 {Z : State} {a0 : Array Value} (hw : ∀ d ∈ tables_1, d.before a0 Z = true) : Jvm.RoadKit.slotOf Z "com/example/countersign/countersign/server/Exchange" "expiresAt" "Ljava/lang/Long;" ≠ Jvm.RoadKit.slotOf Z "com/example/countersign/countersign/server/Exchange" "artefact" "Ljava/lang/String;" := slot_ne (Or.inr (ow40 hw)) (Or.inr (ow36 hw)) (by decide +kernel) (t := (.object "java/lang/Long")) (t' := (.object "java/lang/String")) own_fd4 own_fd3
theorem own_sn3 {Z : State} {a0 : Array Value} (hw : ∀ d ∈ tables_1, d.before a0 Z = true) : Jvm.RoadKit.slotOf Z "com/example/countersign/countersign/server/Exchange" "refreshAt" "Ljava/lang/Long;" ≠ Jvm.RoadKit.slotOf Z "com/example/countersign/countersign/server/Exchange" "artefact" "Ljava/lang/String;" := slot_ne (Or.inr (ow42 hw)) (Or.inr (ow36 hw)) (by decide +kernel) (t := (.object "java/lang/Long")) (t' := (.object "java/lang/String")) own_fd4 own_fd3
theorem own_sn4 {Z : State} {a0 : Array Value} (hw : ∀ d ∈ tables_1, d.before a0 Z = true) : Jvm.RoadKit.slotOf Z "com/example/countersign/countersign/server/Exchange" "failure" "Ljava/lang/String;" ≠ Jvm.RoadKit.slotOf Z "com/example/countersign/countersign/server/Exchange" "artefact" "Ljava/lang/String;" := slot_ne (Or.inr (ow44 hw)) (Or.inr (ow36 hw)) (by decide +kernel) (t := (.object "java/lang/String")) (t' := (.object "java/lang/String")) own_fd3 own_fd3
theorem own_sn5 {Z : State} {a0 : Array Value} (hw : ∀ d ∈ tables_1, d.before a0 Z = true) : Jvm.RoadKit.slotOf Z "com/example/countersign/countersign/server/Exchange" "expiresAt" "Ljava/lang/Long;" ≠ Jvm.RoadKit.slotOf Z "com/example/countersign/countersign/server/Exchange" "activatedAt" "Ljava/lang/Long;" := slot_ne (Or.inr (ow40 hw)) (Or.inr (ow38 hw)) (by decide +kernel) (t := (.object "java/lang/Long")) (t' := (.object "java/lang/Long")) own_fd4 own_fd4
theorem own_sn6 {Z : State} {a0 : Array Value} (hw : ∀ d ∈ tables_1, d.before a0 Z = true) : Jvm.RoadKit.slotOf Z "com/example/countersign/countersign/server/Exchange" "refreshAt" "Ljava/lang/Long;" ≠ Jvm.RoadKit.slotOf Z "com/example/countersign/countersign/server/Exchange" "activatedAt" "Ljava/lang/Long;" := slot_ne (Or.inr (ow42 hw)) (Or.inr (ow38 hw)) (by decide +kernel) (t := (.object "java/lang/Long")) (t' := (.object "java/lang/Long")) own_fd4 own_fd4
theorem own_sn7 {Z : State} {a0 : Array Value} (hw : ∀ d ∈ tables_1, d.before a0 Z = true) : Jvm.RoadKit.slotOf Z "com/example/countersign/countersign/server/Exchange" "failure" "Ljava/lang/String;" ≠ Jvm.RoadKit.slotOf Z "com/example/countersign/countersign/server/Exchange" "activatedAt" "Ljava/lang/Long;" := slot_ne (Or.inr (ow44 hw)) (Or.inr (ow38 hw)) (by decide +kernel) (t := (.object "java/lang/String")) (t' := (.object "java/lang/Long")) own_fd3 own_fd4
theorem own_sn8 {Z : State} {a0 : Array Value} (hw : ∀ d ∈ tables_1, d.before a0 Z = true) : Jvm.RoadKit.slotOf Z "com/example/countersign/countersign/server/Exchange" "refreshAt" "Ljava/lang/Long;" ≠ Jvm.RoadKit.slotOf Z "com/example/countersign/countersign/server/Exchange" "expiresAt" "Ljava/lang/Long;" := slot_ne (Or.inr (ow42 hw)) (Or.inr (ow40 hw)) (by decide +kernel) (t := (.object "java/lang/Long")) (t' := (.object "java/lang/Long")) own_fd4 own_fd4
theorem own_sn9 {Z : State} {a0 : Array Value} (hw : ∀ d ∈ tables_1, d.before a0 Z = true) : Jvm.RoadKit.slotOf Z "com/example/countersign/countersign/server/Exchange" "failure" "Ljava/lang/String;" ≠ Jvm.RoadKit.slotOf Z "com/example/countersign/countersign/server/Exchange" "expiresAt" "Ljava/lang/Long;" := slot_ne (Or.inr (ow44 hw)) (Or.inr (ow40 hw)) (by decide +kernel) (t := (.object "java/lang/String")) (t' := (.object "java/lang/Long")) own_fd3 own_fd4
theorem own_sn10 {Z : State} {a0 : Array Value} (hw : ∀ d ∈ tables_1, d.before a0 Z = true) : Jvm.RoadKit.slotOf Z "com/example/countersign/countersign/server/Exchange" "failure" "Ljava/lang/String;" ≠ Jvm.RoadKit.slotOf Z "com/example/countersign/countersign/server/Exchange" "refreshAt" "Ljava/lang/Long;" := slot_ne (Or.inr (ow44 hw)) (Or.inr (ow42 hw)) (by decide +kernel) (t := (.object "java/lang/String")) (t' := (.object "java/lang/Long")) own_fd3 own_fd4
theorem own_Lhw {Z : State} {a0 : Array Value} (hw : ∀ d ∈ tables_1, d.before a0 Z = true) : own_L Z a0 := by
  intro e he
  simp only [consts_1, List.mem_cons, List.not_mem_nil, or_false] at he
  rcases he with rfl
  · exact ⟨_, hw _ (List.mem_of_getElem? (i := 15) rfl)⟩
theorem own_Jstart {s : State} {a0 args : Array Value} {tb : Tables} {e : Env} (hw : ∀ d ∈ tables_1, d.before a0 s = true) (hcw : (Jvm.Cond.not (Jvm.Cond.eq (Jvm.Term.static "java/lang/String" "COMPACT_STRINGS" "Z") (Jvm.Term.int (0 : Int32)))).before a0 s = true) (hc : Calls_1 tb e args s) : own_J s s.vm s.heap := by
  intro e he
  have hh := hc.1 e he
  simp only [consts_1, List.mem_cons, List.not_mem_nil, or_false] at he
  rcases he with rfl
  · exact heldStart hh (hw _ (List.mem_of_getElem? (i := 15) rfl)) (by decide) hcw (hw _ (List.mem_of_getElem? (i := 16) rfl)) (hw _ (List.mem_of_getElem? (i := 3) rfl))
theorem own_pd_0 : parseMethodDescriptor "([CIILjava/lang/Void;)V" = some ⟨[(.array .char), .int, .int, (.object "java/lang/Void")], none⟩ := by decide +kernel
theorem own_pd_1 : parseMethodDescriptor "()V" = some ⟨[], none⟩ := by decide +kernel
theorem own_pd_2 : parseMethodDescriptor "(J)V" = some ⟨[.long], none⟩ := by decide +kernel
theorem own_pd_3 : parseMethodDescriptor "(Ljava/lang/String;Ljava/lang/Long;Ljava/lang/Long;Ljava/lang/Long;Ljava/lang/String;)V" = some ⟨[(.object "java/lang/String"), (.object "java/lang/Long"), (.object "java/lang/Long"), (.object "java/lang/Long"), (.object "java/lang/String")], none⟩ := by decide +kernel
theorem own_pd_4 : parseMethodDescriptor "(J)Ljava/lang/Long;" = some ⟨[.long], some (.object "java/lang/Long")⟩ := by decide +kernel
theorem own_pd_5 : parseMethodDescriptor "()Z" = some ⟨[], some .boolean⟩ := by decide +kernel
theorem own_pd_6 : parseMethodDescriptor "(Ljava/lang/String;)Lcom/example/countersign/countersign/server/Exchange;" = some ⟨[(.object "java/lang/String")], some (.object "com/example/countersign/countersign/server/Exchange")⟩ := by decide +kernel
theorem own_pd_7 : parseMethodDescriptor "(Ljava/lang/String;J)Lcom/example/countersign/countersign/server/Exchange;" = some ⟨[(.object "java/lang/String"), .long], some (.object "com/example/countersign/countersign/server/Exchange")⟩ := by decide +kernel
theorem own_pd_8 : parseMethodDescriptor "(Ljava/lang/String;JJJ)Lcom/example/countersign/countersign/server/Exchange;" = some ⟨[(.object "java/lang/String"), .long, .long, .long], some (.object "com/example/countersign/countersign/server/Exchange")⟩ := by decide +kernel
theorem own_pd_9 : parseMethodDescriptor "([C)V" = some ⟨[(.array .char)], none⟩ := by decide +kernel
theorem own_pn_0 : plainName "java/lang/String" = true := by first | (simp [plainName, overriddenIn]; done) | decide +kernel
theorem own_pn_1 : plainName "java/lang/Number" = true := by first | (simp [plainName, overriddenIn]; done) | decide +kernel
theorem own_pn_2 : plainName "java/lang/Long" = true := by first | (simp [plainName, overriddenIn]; done) | decide +kernel
theorem own_pn_3 : plainName "java/lang/Record" = true := by first | (simp [plainName, overriddenIn]; done) | decide +kernel
theorem own_pn_4 : plainName "com/example/countersign/countersign/server/Exchange" = true := by first | (simp [plainName, overriddenIn]; done) | decide +kernel
theorem own_pn_5 : plainName "com/example/countersign/countersign/server/ExchangeSucceededPinLaw" = true := by first | (simp [plainName, overriddenIn]; done) | decide +kernel
theorem own_wS {Z : State} {a0 : Array Value} (hw : ∀ d ∈ tables_1, d.before a0 Z = true) : ∀ a ∈ Bundle.stringAtoms, a.before a0 Z = true := by
  intro d hd
  simp only [Bundle.stringAtoms, List.mem_cons, List.not_mem_nil, or_false] at hd
  rcases hd with rfl | rfl | rfl | rfl | rfl | rfl | rfl
  · exact (ow4 hw)
  · exact (ow3 hw)
  · exact (ow16 hw)
  · exact (ow17 hw)
  · exact (ow18 hw)
  · exact (ow19 hw)
  · exact (ow20 hw)
def own_C8 (c : Int32) : Prop := ¬ c < 0 ∧ ¬ (255 : Int32) < c
theorem own_c8m (x : Int32) : own_C8 (x &&& (255 : Int32)) := by
  have a1 := c_and x 255 (by decide)
  have a2 : (255 : Int32).toInt = 255 := by decide
  have a3 : (0 : Int32).toInt = 0 := by decide
  exact ⟨by rw [Int32.lt_iff_toInt_lt]; omega, by rw [Int32.lt_iff_toInt_lt]; omega⟩
theorem own_narM (x : Int32) : nar .char (x &&& (255 : Int32)) = (x &&& (255 : Int32)) := i2c_mask x
theorem own_nar8 {c : Int32} (h : own_C8 c) : nar .char c = c := by
  have a1 := c_i2c c
  have a2 : (255 : Int32).toInt = 255 := by decide
  have a3 : (0 : Int32).toInt = 0 := by decide
  have a4 := mt Int32.lt_iff_toInt_lt.mpr h.1
  have a5 := mt Int32.lt_iff_toInt_lt.mpr h.2
  exact Int32.toInt_inj.mp (by show c.toUInt32.toUInt16.toUInt32.toInt32.toInt = c.toInt; omega)
theorem own_shr0 (x : Int32) : x >>> ((0 : Int32) &&& 31) = x := by
  have a := c_ishr x 0 0 (by decide)
  exact Int32.toInt_inj.mp (by rw [a]; simp)
theorem own_shl0 (x : Int32) : x <<< ((0 : Int32) &&& 31) = x := by
  have a := c_ishl x 0 0 (by decide)
  have b := rng32 x
  have c := rng32 (x <<< ((0 : Int32) &&& 31))
  have e : ((2 ^ 0 : Nat) : Int) = 1 := rfl
  rw [e, Int.mul_one] at a
  exact Int32.toInt_inj.mp (by omega)
theorem own_narB (x : Int32) : nar .byte x.toInt8.toInt32 = x.toInt8.toInt32 := by
  have a1 := c_i2b x
  have a2 := c_i2b x.toInt8.toInt32
  exact Int32.toInt_inj.mp (by show x.toInt8.toInt32.toInt8.toInt32.toInt = x.toInt8.toInt32.toInt; omega)
theorem own_c8n {c : Int32} (h : own_C8 c) : own_C8 (nar .char c) := by rw [own_nar8 h]; exact h
theorem own_c8l (x : Int64) : own_C8 (((x &&& (255 : Int64)).toInt32).toUInt32.toUInt16.toUInt32.toInt32) := by
  have a1 := c_i2c ((x &&& (255 : Int64)).toInt32)
  have a2 : (255 : Int32).toInt = 255 := by decide
  have a3 : (0 : Int32).toInt = 0 := by decide
  have a4 := c_maskL x 255 8 (by decide) (by decide)
  have a5 := c_l2i (x &&& (255 : Int64))
  have a6 := rng32 ((x &&& (255 : Int64)).toInt32)
  exact ⟨by rw [Int32.lt_iff_toInt_lt]; omega, by rw [Int32.lt_iff_toInt_lt]; omega⟩
theorem own_b8 {c k : Int32} (h : own_C8 c) (k0 : 0 ≤ k.toInt) (k1 : k.toInt < 128) : c.toInt8.toInt32 = k ↔ c = k := by
  have a1 := c_i2b c
  have a2 : (255 : Int32).toInt = 255 := by decide
  have a3 : (0 : Int32).toInt = 0 := by decide
  have a4 := mt Int32.lt_iff_toInt_lt.mpr h.1
  have a5 := mt Int32.lt_iff_toInt_lt.mpr h.2
  constructor
  · intro q; have q' := congrArg Int32.toInt q; exact Int32.toInt_inj.mp (by omega)
  · intro q; have q' := congrArg Int32.toInt q; exact Int32.toInt_inj.mp (by omega)
theorem own_cN : ∀ c ∈ ([] : List Int32), own_C8 c := fun _ q => nomatch q
theorem own_cC {a : Int32} {l : List Int32} (h : own_C8 a) (t : ∀ c ∈ l, own_C8 c) : ∀ c ∈ a :: l, own_C8 c := fun c q => (List.mem_cons.mp q).elim (fun e => e ▸ h) (t c)
theorem own_sw1 {Z : State} {a0 : Array Value} (hw : ∀ d ∈ tables_1, d.before a0 Z = true) : ∀ d ∈ StrChars.Road.words, d.before a0 Z = true := fun d hd => hw d ((by decide +kernel : ∀ d ∈ StrChars.Road.words, d ∈ tables_1) d hd)
theorem own_lenOf {args : Array Value} {s : State} {t : Term} {a : Addr} {c : Cell} {k : Int32} (et : t.eval args s none [] s = some (.ref a)) (A : s.arrayAt? a = some c) (h : (Jvm.Cond.eq (Term.length t) (Term.int k)).value args s none s [] = some true) : c.slots.size < 2 ^ 31 ∧ c.slots.size.toInt32 = k := by
  by_cases q : c.slots.size < 2 ^ 31
  · refine ⟨q, ?_⟩
    have e := len_f (o := none) (first := s) (idx := []) et A q
    exact gotT (Cond.eq_ints e (Term.int_eval k)) h
  · exfalso
    simp [Cond.value, Term.eval, et, A, q] at h
theorem own_subIdx {args : Array Value} {s : State} {j : Int32} (hj : ¬ j < 0) : (Term.sub (.index 0) (.int 128)).eval args s none [j.toNatClampNeg] s = some (.int (j - 128)) := by
  simp [Term.eval, (back32 hj).1]
def own_bxv (j : Int32) : Value := .long (j - 128).toInt64
theorem own_place {q : Int64} {c : Cell} (hc : c.slots.size = (256 : Int32).toNatClampNeg) (h1 : ¬ q < (-128 : Int64)) (h2 : ¬ (127 : Int64) < q) : ¬ ((q.toInt32 + (128 : Int32)) < 0 ∨ c.slots.size ≤ (q.toInt32 + (128 : Int32)).toNatClampNeg) ∧ own_bxv (q.toInt32 + (128 : Int32)) = .long q := by
  have a1 := mt Int64.lt_iff_toInt_lt.mpr h1
  have a2 := mt Int64.lt_iff_toInt_lt.mpr h2
  have a3 : (-128 : Int64).toInt = -128 := by decide
  have a4 : (127 : Int64).toInt = 127 := by decide
  have a5 : (128 : Int32).toInt = 128 := by decide
  have a6 := c_l2i q
  have a7 := c_iadd q.toInt32 128
  have a8 := rng32 q.toInt32
  have a9 := rng32 (q.toInt32 + 128)
  have b1 := c_isub (q.toInt32 + 128) 128
  have b2 := rng32 ((q.toInt32 + 128) - 128)
  have b3 : (256 : Int32).toNatClampNeg = 256 := by decide
  have b4 : (256 : Int32).toInt = 256 := by decide
  refine ⟨inb_of hc ⟨?_, ?_⟩, ?_⟩
  · rw [Int32.lt_iff_toInt_lt]; have : (0 : Int32).toInt = 0 := by decide
    omega
  · rw [Int32.lt_iff_toInt_lt]; omega
  · have : ((q.toInt32 + 128) - 128).toInt64 = q := Int64.toInt_inj.mp (by rw [Int32.toInt_toInt64]; omega)
    exact congrArg Value.long this
theorem d2_0 : decode jdk_42_method_149_code 0 = .ok (.aload_n 0, 1) := by decide +kernel
theorem d2_1 : decode jdk_42_method_149_code 1 = .ok (.invokespecial 1, 3) := by decide +kernel
theorem d2_4 : decode jdk_42_method_149_code 4 = .ok (.iload_n 3, 1) := by decide +kernel
theorem d2_5 : decode jdk_42_method_149_code 5 = .ok (.ifCond .ne 22, 3) := by decide +kernel
theorem d2_8 : decode jdk_42_method_149_code 8 = .ok (.aload_n 0, 1) := by decide +kernel
theorem d2_9 : decode jdk_42_method_149_code 9 = .ok (.ldc 7, 2) := by decide +kernel
theorem d2_11 : decode jdk_42_method_149_code 11 = .ok (.getfield 9, 3) := by decide +kernel
theorem d2_14 : decode jdk_42_method_149_code 14 = .ok (.putfield 9, 3) := by decide +kernel
theorem d2_17 : decode jdk_42_method_149_code 17 = .ok (.aload_n 0, 1) := by decide +kernel
theorem d2_18 : decode jdk_42_method_149_code 18 = .ok (.ldc 7, 2) := by decide +kernel
theorem d2_20 : decode jdk_42_method_149_code 20 = .ok (.getfield 15, 3) := by decide +kernel
theorem d2_23 : decode jdk_42_method_149_code 23 = .ok (.putfield 15, 3) := by decide +kernel
theorem d2_26 : decode jdk_42_method_149_code 26 = .ok (.return_, 1) := by decide +kernel
def Q_st2E (Z : State) (zc : Int32) (wc : Addr) (clc : Cell) (a1 : Addr) (a2 : Addr) (k : ClassId) (h0 : Heap) (v : Option Value) (h : Heap) (L : List Loc) : Prop := (v = none ∧ Fr Z.heap.size L ∧ Keep h0 h [a1] ∧ Exa Z h a1 "java/lang/String")
theorem ef_st2E (m : MethodId) (x0 : Addr) (x1 : Addr) : entryFrame m #[(.ref x0), (.ref x1), (.int (0 : Int32)), (.int (0 : Int32)), .null] 6 = mkF m 0 #[rv x0, rv x1, iv (0 : Int32), iv (0 : Int32), .val .null, .unset] [] := by first | (simp [entryFrame, mkF, argsToLocals, Value.category]; done) | rfl
set_option maxRecDepth 65536 in
set_option maxHeartbeats 40000000 in
theorem rm_st2E (l : Launch) (Z : State) (a0 : Array Value) (hw : ∀ d ∈ tables_1, d.before a0 Z = true) {zc : Int32} {wc : Addr} {clc : Cell} (oCS : Sta Z Z.heap "java/lang/String" "COMPACT_STRINGS" "Z" (.int zc)) (oCz : ¬ zc = (0 : Int32)) (oCa : Sta Z Z.heap "java/lang/Long$LongCache" "cache" "[Ljava/lang/Long;" (.ref wc)) (oBx : Bxs Z wc clc "java/lang/Long" "J" (256 : Int32) own_bxv) (ws : List Jvm.Cond) (a1 : Addr) (a2 : Addr) (k : ClassId) (h0 : Heap) (O0 : Ext Z.heap h0) (fp0 : Exa Z h0 a1 "java/lang/String") (fp1 : Fld Z h0 a1 "java/lang/String" "value" "[B" .null) (fp2 : Fld Z h0 a1 "java/lang/String" "coder" "B" (.int (0 : Int32))) (fp3 : Arv Z h0 a2 k .char (0 : Int32) [] (.int (0 : Int32))) (big_a1 : Z.heap.size ≤ a1) :
    MetFree l (⟨"java/lang/String", "<init>", "([CIILjava/lang/Void;)V"⟩ : MethodName) (head1 (Jvm.Cond.code (⟨"java/lang/String", "<init>", "([CIILjava/lang/Void;)V"⟩ : MethodName) jdk_42_method_149_code 6 none :: ws) ({ frames := 1, cells := 2, slots := 4, locals := 12 } : Room)) (fun a U => a = #[(.ref a1), (.ref a2), (.int (0 : Int32)), (.int (0 : Int32)), .null] ∧ Z.Warmed39 U.vm ∧ U.heap = h0 ∧ own_J Z U.vm U.heap) (fun _ _ _ _ _ => True) (fun _ U o U' => ∃ v L, o = .returned v ∧ ((Q_st2E Z zc wc clc a1 a2 k h0) v U'.heap L ∧ own_J Z U'.vm U'.heap) ∧ ReturnedEndW U o U' L ({ frames := 1, cells := 2, slots := 4, locals := 12 } : Room).cells ({ frames := 1, cells := 2, slots := 4, locals := 12 } : Room).slots) := by
  refine own_metW (Q := (Q_st2E Z zc wc clc a1 a2 k h0)) _ _ (plainFor_of_name own_pn_0) ?_
  intro p e s vm0 m below meth c T X0 hS hJ hJ0 hZ0 hI hs0 hx hby hml hret hlk hZ hown hnm e0
  replace hown : (s.setVm vm0).vm.findClass "java/lang/String" = some m.cls := hown
  replace hnm : meth.name = "<init>" := hnm
  have hml : c.maxLocals = 6 := hml
  have N0 := Fr.nil Z.heap.size
  have hL := own_Lhw hw
  have K0 := Keep.refl h0 [a1]
  refine own_goW (fun _ k => castTop (ef_st2E m a1 a2) k) ?_
  have ne1 : a2 ≠ a1 := (Ne.symm (Exa.neArv fp0 fp3 (ow3 hw)))
  show own_GoW p e below s _ _ _ _ (T.setTop (mkF m 0 #[rv a1, rv a2, iv (0 : Int32), iv (0 : Int32), .val .null, .unset] []))
  refine own_goW (fun _ k => XS.aloadN X0.here hx rfl (hb hby d2_0) rfl rfl k) ?_
  show own_GoW p e below s _ _ _ _ (T.setTop (mkF m 1 #[rv a1, rv a2, iv (0 : Int32), iv (0 : Int32), .val .null, .unset] [(.ref a1)]))
  obtain ⟨T2, X2, e2, st2⟩ := initO X0 hx hZ hown (ow12 hw) (ow13 hw) (ow14 hw) e0 (g := (mkF m 1 #[rv a1, rv a2, iv (0 : Int32), iv (0 : Int32), .val .null, .unset] [(.ref a1)])) rfl (by rw [hml]; rfl) rfl (hb hby d2_1) (by decide) (W := 0) (by show 2 * 0 + _ ≤ _; exact Nat.le_of_eq rfl) (by decide)
  refine own_goW st2 ?_
  clear st2 X0 e0
  show own_GoW p e below s _ _ _ _ (T2.setTop (mkF m 4 #[rv a1, rv a2, iv (0 : Int32), iv (0 : Int32), .val .null, .unset] []))
  refine own_goW (fun _ k => XS.iloadN X2.here hx rfl (hb hby d2_4) rfl k) ?_
  show own_GoW p e below s _ _ _ _ (T2.setTop (mkF m 5 #[rv a1, rv a2, iv (0 : Int32), iv (0 : Int32), .val .null, .unset] [(.int (0 : Int32))]))
  refine own_goW (fun _ k => XS.ifNo X2.here hx rfl (hb hby d2_5) rfl ((if0 _ _).trans (teq (by decide : (0 : Int32) = (0 : Int32))).2) k) ?_
  show own_GoW p e below s _ _ _ _ (T2.setTop (mkF m 8 #[rv a1, rv a2, iv (0 : Int32), iv (0 : Int32), .val .null, .unset] []))
  refine own_goW (fun _ k => XS.aloadN X2.here hx rfl (hb hby d2_8) rfl rfl k) ?_
  show own_GoW p e below s _ _ _ _ (T2.setTop (mkF m 9 #[rv a1, rv a2, iv (0 : Int32), iv (0 : Int32), .val .null, .unset] [(.ref a1)]))
  obtain ⟨b3, T3, h3, vm3, u3, X3, e3, E3, hSn, hZn, hownn, hJn, hIn, li3, tx3, sl3, st3⟩ := own_ldcJ X2 hS hx hZ hown hL (List.mem_of_getElem? (i := 0) rfl) (ow15 hw) (own_wS hw) e2 (Fr.nil _) hJ0 hZ0 hJ hI (by decide) (by decide) (g := (mkF m 9 #[rv a1, rv a2, iv (0 : Int32), iv (0 : Int32), .val .null, .unset] [(.ref a1)])) rfl (hb hby d2_9) (n := 0) (by decide) (by decide) (by show _ ≤ 2; omega) (by show _ ≤ 4; omega)
  refine own_goW st3 ?_
  clear st3 X2 e2
  replace hS := hSn
  replace hZ := hZn
  replace hown := hownn
  replace hJ := hJn
  replace hI := hIn
  clear hSn hZn hownn hJn hIn
  replace fp0 := fp0.ext E3
  replace fp1 := fp1.ext E3
  replace fp2 := fp2.ext E3
  replace O0 := own_oldExt O0 E3
  replace K0 := K0.ext E3
  clear E3
  obtain ⟨t3, kt3, g13, g23, g33, g43⟩ := own_litFacts hZ sl3 tx3 (by decide)
  clear sl3 tx3
  replace g43 : Arv Z h3 t3 kt3 .byte (0 : Int32) [] (.int (0 : Int32)) := g43
  show own_GoW p e below s _ _ _ _ (T3.setTop (mkF m 11 #[rv a1, rv a2, iv (0 : Int32), iv (0 : Int32), .val .null, .unset] [(.ref b3), (.ref a1)]))
  obtain ⟨T4, X4, e4, st4⟩ := getF X3 hx hZ hown (host := "") (Or.inl (ow21 hw)) Via.refl e3 g33 (g := (mkF m 11 #[rv a1, rv a2, iv (0 : Int32), iv (0 : Int32), .val .null, .unset] [(.ref b3), (.ref a1)])) rfl rfl (hb hby d2_11)
  refine own_goW st4 ?_
  clear st4 X3 e3
  show own_GoW p e below s _ _ _ _ (T4.setTop (mkF m 14 #[rv a1, rv a2, iv (0 : Int32), iv (0 : Int32), .val .null, .unset] [(.ref t3), (.ref a1)]))
  obtain ⟨T5, h5, X5, e5, W5, st5⟩ := putF X4 hx hZ hown (host := "") (Or.inl (ow21 hw)) Via.refl e4 fp1 fp0 (Or.inr ⟨(ow17 hw), rfl, hnm⟩) (ow3 hw) (ty := (.array .byte)) own_fd0 rfl rfl (g := (mkF m 14 #[rv a1, rv a2, iv (0 : Int32), iv (0 : Int32), .val .null, .unset] [(.ref t3), (.ref a1)])) rfl rfl (hb hby d2_14)
  refine own_goW st5 ?_
  clear st5 X4 e4
  replace N0 := Fr.snoc X5 N0 big_a1
  have hAp_a1 := own_apart hZ hJ fp1
  replace hJ := own_JwrS hZ hJ W5 hAp_a1 fp0 (ow3 hw)
  have ne6 : b3 ≠ a1 := (Fld.ne g33 fp1 (fun q => nomatch q))
  have ne7 : t3 ≠ a1 := (Ne.symm (Exa.neArv fp0 g43 (ow3 hw)))
  replace fp0 := fp0.wr W5
  replace fp1 := fp1.same W5
  replace fp2 := fp2.other W5 (.inr (own_sn0 hw))
  replace g13 := g13.wr W5
  replace g23 := g23.other W5 (Or.inl ne6)
  replace g33 := g33.other W5 (Or.inl ne6)
  replace g43 := g43.other W5 ne7
  replace O0 := own_oldWr O0 W5 big_a1
  replace K0 := K0.wr W5 (Or.inl (List.mem_of_getElem? (i := 0) rfl))
  replace hS := own_since hS (Nat.le_of_eq W5.size.symm)
  clear W5
  show own_GoW p e below s _ _ _ _ (T5.setTop (mkF m 17 #[rv a1, rv a2, iv (0 : Int32), iv (0 : Int32), .val .null, .unset] []))
  refine own_goW (fun _ k => XS.aloadN X5.here hx rfl (hb hby d2_17) rfl rfl k) ?_
  show own_GoW p e below s _ _ _ _ (T5.setTop (mkF m 18 #[rv a1, rv a2, iv (0 : Int32), iv (0 : Int32), .val .null, .unset] [(.ref a1)]))
  refine own_goW (ldcAgain X5 hx hZ hown (ow15 hw) li3 (g := (mkF m 18 #[rv a1, rv a2, iv (0 : Int32), iv (0 : Int32), .val .null, .unset] [(.ref a1)])) rfl (hb hby d2_18)) ?_
  show own_GoW p e below s _ _ _ _ (T5.setTop (mkF m 20 #[rv a1, rv a2, iv (0 : Int32), iv (0 : Int32), .val .null, .unset] [(.ref b3), (.ref a1)]))
  obtain ⟨T9, X9, e9, st9⟩ := getF X5 hx hZ hown (host := "") (Or.inl (ow22 hw)) Via.refl e5 g23 (g := (mkF m 20 #[rv a1, rv a2, iv (0 : Int32), iv (0 : Int32), .val .null, .unset] [(.ref b3), (.ref a1)])) rfl rfl (hb hby d2_20)
  refine own_goW st9 ?_
  clear st9 X5 e5
  show own_GoW p e below s _ _ _ _ (T9.setTop (mkF m 23 #[rv a1, rv a2, iv (0 : Int32), iv (0 : Int32), .val .null, .unset] [(.int (0 : Int32)), (.ref a1)]))
  obtain ⟨T10, h10, X10, e10, W10, st10⟩ := putFN X9 hx hZ hown (ow22 hw) Via.refl e9 fp2 fp0 (Or.inr ⟨(ow18 hw), rfl, hnm⟩) (ow3 hw) (ty := .byte) (v' := (.int (0 : Int32))) own_fd1 rfl (by decide) (g := (mkF m 23 #[rv a1, rv a2, iv (0 : Int32), iv (0 : Int32), .val .null, .unset] [(.int (0 : Int32)), (.ref a1)])) rfl rfl (hb hby d2_23)
  refine own_goW st10 ?_
  clear st10 X9 e9
  replace N0 := Fr.snoc X10 N0 big_a1
  replace hJ := own_JwrS hZ hJ W10 hAp_a1 fp0 (ow3 hw)
  replace fp0 := fp0.wr W10
  replace fp1 := fp1.other W10 (.inr (own_sn0 hw).symm)
  replace fp2 := fp2.same W10
  replace g13 := g13.wr W10
  replace g23 := g23.other W10 (Or.inl ne6)
  replace g33 := g33.other W10 (Or.inl ne6)
  replace g43 := g43.other W10 ne7
  replace O0 := own_oldWr O0 W10 big_a1
  replace K0 := K0.wr W10 (Or.inl (List.mem_of_getElem? (i := 0) rfl))
  replace hS := own_since hS (Nat.le_of_eq W10.size.symm)
  clear W10
  show own_GoW p e below s _ _ _ _ (T10.setTop (mkF m 26 #[rv a1, rv a2, iv (0 : Int32), iv (0 : Int32), .val .null, .unset] []))
  refine own_retVW X10 hS hL hZ hJ hx hlk e10 hret (hb hby d2_26) (by show _ ≤ 2; omega) (by show _ ≤ 4; omega) ?_
  exact ⟨rfl, N0, K0, fp0⟩
theorem d1_0 : decode jdk_42_method_3_code 0 = .ok (.aload_n 0, 1) := by decide +kernel
theorem d1_1 : decode jdk_42_method_3_code 1 = .ok (.aload_n 1, 1) := by decide +kernel
theorem d1_2 : decode jdk_42_method_3_code 2 = .ok (.iconst 0, 1) := by decide +kernel
theorem d1_3 : decode jdk_42_method_3_code 3 = .ok (.aload_n 1, 1) := by decide +kernel
theorem d1_4 : decode jdk_42_method_3_code 4 = .ok (.arraylength, 1) := by decide +kernel
theorem d1_5 : decode jdk_42_method_3_code 5 = .ok (.aconst_null, 1) := by decide +kernel
theorem d1_6 : decode jdk_42_method_3_code 6 = .ok (.invokespecial 27, 3) := by decide +kernel
theorem d1_9 : decode jdk_42_method_3_code 9 = .ok (.return_, 1) := by decide +kernel
def Q_st1E (Z : State) (zc : Int32) (wc : Addr) (clc : Cell) (a1 : Addr) (a2 : Addr) (k : ClassId) (h0 : Heap) (v : Option Value) (h : Heap) (L : List Loc) : Prop := (v = none ∧ Fr Z.heap.size L ∧ Keep h0 h [a1] ∧ Exa Z h a1 "java/lang/String")
theorem ef_st1E (m : MethodId) (x0 : Addr) (x1 : Addr) : entryFrame m #[(.ref x0), (.ref x1)] 2 = mkF m 0 #[rv x0, rv x1] [] := by first | (simp [entryFrame, mkF, argsToLocals, Value.category]; done) | rfl
set_option maxRecDepth 65536 in
set_option maxHeartbeats 40000000 in
theorem rm_st1E (l : Launch) (Z : State) (a0 : Array Value) (hw : ∀ d ∈ tables_1, d.before a0 Z = true) {zc : Int32} {wc : Addr} {clc : Cell} (oCS : Sta Z Z.heap "java/lang/String" "COMPACT_STRINGS" "Z" (.int zc)) (oCz : ¬ zc = (0 : Int32)) (oCa : Sta Z Z.heap "java/lang/Long$LongCache" "cache" "[Ljava/lang/Long;" (.ref wc)) (oBx : Bxs Z wc clc "java/lang/Long" "J" (256 : Int32) own_bxv) (ws : List Jvm.Cond) (a1 : Addr) (a2 : Addr) (k : ClassId) (h0 : Heap) (O0 : Ext Z.heap h0) (fp0 : Exa Z h0 a1 "java/lang/String") (fp1 : Fld Z h0 a1 "java/lang/String" "value" "[B" .null) (fp2 : Fld Z h0 a1 "java/lang/String" "coder" "B" (.int (0 : Int32))) (fp3 : Arv Z h0 a2 k .char (0 : Int32) [] (.int (0 : Int32))) (big_a1 : Z.heap.size ≤ a1) :
    MetFree l (⟨"java/lang/String", "<init>", "([C)V"⟩ : MethodName) (head1 (Jvm.Cond.code (⟨"java/lang/String", "<init>", "([C)V"⟩ : MethodName) jdk_42_method_3_code 2 none :: ws) ({ frames := 2, cells := 2, slots := 4, locals := 29 } : Room)) (fun a U => a = #[(.ref a1), (.ref a2)] ∧ Z.Warmed39 U.vm ∧ U.heap = h0 ∧ own_J Z U.vm U.heap) (fun _ _ _ _ _ => True) (fun _ U o U' => ∃ v L, o = .returned v ∧ ((Q_st1E Z zc wc clc a1 a2 k h0) v U'.heap L ∧ own_J Z U'.vm U'.heap) ∧ ReturnedEndW U o U' L ({ frames := 2, cells := 2, slots := 4, locals := 29 } : Room).cells ({ frames := 2, cells := 2, slots := 4, locals := 29 } : Room).slots) := by
  refine own_metW (Q := (Q_st1E Z zc wc clc a1 a2 k h0)) _ _ (plainFor_of_name own_pn_0) ?_
  intro p e s vm0 m below meth c T X0 hS hJ hJ0 hZ0 hI hs0 hx hby hml hret hlk hZ hown hnm e0
  replace hown : (s.setVm vm0).vm.findClass "java/lang/String" = some m.cls := hown
  replace hnm : meth.name = "<init>" := hnm
  have hml : c.maxLocals = 2 := hml
  have N0 := Fr.nil Z.heap.size
  have hL := own_Lhw hw
  have K0 := Keep.refl h0 [a1]
  refine own_goW (fun _ k => castTop (ef_st1E m a1 a2) k) ?_
  have ne1 : a2 ≠ a1 := (Ne.symm (Exa.neArv fp0 fp3 (ow3 hw)))
  show own_GoW p e below s _ _ _ _ (T.setTop (mkF m 0 #[rv a1, rv a2] []))
  refine own_goW (fun _ k => XS.aloadN X0.here hx rfl (hb hby d1_0) rfl rfl k) ?_
  show own_GoW p e below s _ _ _ _ (T.setTop (mkF m 1 #[rv a1, rv a2] [(.ref a1)]))
  refine own_goW (fun _ k => XS.aloadN X0.here hx rfl (hb hby d1_1) rfl rfl k) ?_
  show own_GoW p e below s _ _ _ _ (T.setTop (mkF m 2 #[rv a1, rv a2] [(.ref a2), (.ref a1)]))
  refine own_goW (fun _ k => XS.iconst X0.here hx rfl (hb hby d1_2) k) ?_
  show own_GoW p e below s _ _ _ _ (T.setTop (mkF m 3 #[rv a1, rv a2] [(.int (0 : Int32)), (.ref a2), (.ref a1)]))
  refine own_goW (fun _ k => XS.aloadN X0.here hx rfl (hb hby d1_3) rfl rfl k) ?_
  show own_GoW p e below s _ _ _ _ (T.setTop (mkF m 4 #[rv a1, rv a2] [(.ref a2), (.int (0 : Int32)), (.ref a2), (.ref a1)]))
  obtain ⟨cl2, Ar2, -, S2, M2, -, -⟩ := id (fp3.keep K0 (ninS ne1 nin0))
  refine own_goW (X0.arraylength hx (by rw [e0]; exact Ar2.1) (State.isArrayOf_alike hZ.alike Ar2.2.1) (g := (mkF m 4 #[rv a1, rv a2] [(.ref a2), (.int (0 : Int32)), (.ref a2), (.ref a1)])) rfl rfl (hb hby d1_4)) ?_
  rw [len_of S2 M2]
  show own_GoW p e below s _ _ _ _ (T.setTop (mkF m 5 #[rv a1, rv a2] [(.int (0 : Int32)), (.int (0 : Int32)), (.ref a2), (.ref a1)]))
  refine own_goW (fun _ k => XS.aconstNull X0.here hx rfl (hb hby d1_5) k) ?_
  show own_GoW p e below s _ _ _ _ (T.setTop (mkF m 6 #[rv a1, rv a2] [.null, (.int (0 : Int32)), (.int (0 : Int32)), (.ref a2), (.ref a1)]))
  obtain ⟨v3, T3, L3, X3, hSn, hZn, hownn, hQ3, hJn, st3⟩ := own_callIW (y := (⟨"java/lang/String", "<init>", "([CIILjava/lang/Void;)V"⟩ : MethodName)) X0 hS hL hJ hx hZ hown (ow8 hw) (ow9 hw) (ow4 hw) (ow11 hw) (rm_st2E l Z a0 hw oCS oCz oCa oBx [] a1 a2 k h0 O0 fp0 fp1 fp2 (fp3.keep K0 (ninS ne1 nin0)) big_a1) 0 2 4 rfl (by show _ ≤ 2; omega) (by show _ ≤ 4; omega) e0 (g := (mkF m 6 #[rv a1, rv a2] [.null, (.int (0 : Int32)), (.int (0 : Int32)), (.ref a2), (.ref a1)])) rfl (by rw [hml]; rfl) a1 [(.ref a2), (.int (0 : Int32)), (.int (0 : Int32)), .null] [] (lenOf own_pd_0 rfl) rfl rfl (hb hby d1_6)
  replace hS := hSn
  replace hZ := hZn
  replace hown := hownn
  replace hJ := hJn
  clear hSn hZn hownn hJn
  obtain ⟨rfl, Nc6, Kc5, f4⟩ := hQ3
  refine own_goW st3 ?_
  clear st3 X0 e0
  replace N0 := Fr.app N0 Nc6
  clear Nc6
  replace fp0 := fp0.keep Kc5
  clear fp1
  clear fp2
  replace O0 := own_oldKeep O0 Kc5 (allS big_a1 all0)
  replace K0 := K0.trans Kc5 (allS (Or.inl (List.mem_of_getElem? (i := 0) rfl)) all0)
  clear Kc5
  show own_GoW p e below s _ _ _ _ (T3.setTop (mkF m 9 #[rv a1, rv a2] []))
  refine own_retVW X3 hS hL hZ hJ hx hlk (rfl : T3.heap = T3.heap) hret (hb hby d1_9) (by show _ ≤ 2; omega) (by show _ ≤ 4; omega) ?_
  exact ⟨rfl, N0, K0, f4⟩
theorem d11_0 : decode jdk_18_method_1_code 0 = .ok (.aload_n 0, 1) := by decide +kernel
theorem d11_1 : decode jdk_18_method_1_code 1 = .ok (.invokespecial 1, 3) := by decide +kernel
theorem d11_4 : decode jdk_18_method_1_code 4 = .ok (.return_, 1) := by decide +kernel
def Q_numinit (Z : State) (zc : Int32) (wc : Addr) (clc : Cell) (a1 : Addr) (h0 : Heap) (v : Option Value) (h : Heap) (L : List Loc) : Prop := (v = none ∧ Fr Z.heap.size L ∧ h = h0)
theorem ef_numinit (m : MethodId) (x0 : Addr) : entryFrame m #[(.ref x0)] 1 = mkF m 0 #[rv x0] [] := by first | (simp [entryFrame, mkF, argsToLocals, Value.category]; done) | rfl
set_option maxRecDepth 65536 in
set_option maxHeartbeats 40000000 in
theorem rm_numinit (l : Launch) (Z : State) (a0 : Array Value) (hw : ∀ d ∈ tables_1, d.before a0 Z = true) {zc : Int32} {wc : Addr} {clc : Cell} (oCS : Sta Z Z.heap "java/lang/String" "COMPACT_STRINGS" "Z" (.int zc)) (oCz : ¬ zc = (0 : Int32)) (oCa : Sta Z Z.heap "java/lang/Long$LongCache" "cache" "[Ljava/lang/Long;" (.ref wc)) (oBx : Bxs Z wc clc "java/lang/Long" "J" (256 : Int32) own_bxv) (ws : List Jvm.Cond) (a1 : Addr) (h0 : Heap) (O0 : Ext Z.heap h0) :
    own_MF l Z h0 (⟨"java/lang/Number", "<init>", "()V"⟩ : MethodName) jdk_18_method_1_code 1 none ({ frames := 1, cells := 0, slots := 0, locals := 12 } : Room) #[(.ref a1)] (Q_numinit Z zc wc clc a1 h0) ws := by
  refine own_met (Q := (Q_numinit Z zc wc clc a1 h0)) _ _ (plainFor_of_name own_pn_1) ?_
  intro p e s m below meth c T X0 hx hby hml hret hlk hZ hown hnm e0
  replace hown : s.vm.findClass "java/lang/Number" = some m.cls := hown
  replace hnm : meth.name = "<init>" := hnm
  have hml : c.maxLocals = 1 := hml
  have N0 := Fr.nil Z.heap.size
  have K0 := Keep.refl h0 []
  refine own_go (fun _ k => castTop (ef_numinit m a1) k) ?_
  show own_Go p e below s _ _ _ (T.setTop (mkF m 0 #[rv a1] []))
  refine own_go (fun _ k => XS.aloadN X0.here hx rfl (hb hby d11_0) rfl rfl k) ?_
  show own_Go p e below s _ _ _ (T.setTop (mkF m 1 #[rv a1] [(.ref a1)]))
  obtain ⟨T1, X1, e1, st1⟩ := initO X0 hx hZ hown (ow75 hw) (ow13 hw) (ow14 hw) e0 (g := (mkF m 1 #[rv a1] [(.ref a1)])) rfl (by rw [hml]; rfl) rfl (hb hby d11_1) (by decide) (W := 0) (by show 2 * 0 + _ ≤ _; exact Nat.le_of_eq rfl) (by decide)
  refine own_go st1 ?_
  clear st1 X0 e0
  show own_Go p e below s _ _ _ (T1.setTop (mkF m 4 #[rv a1] []))
  refine own_retV X1 hx hlk e1 hret (hb hby d11_4) (by show _ ≤ 0; omega) (by show _ ≤ 0; omega) ?_
  exact ⟨rfl, N0, rfl⟩
theorem d10_0 : decode jdk_35_method_26_code 0 = .ok (.aload_n 0, 1) := by decide +kernel
theorem d10_1 : decode jdk_35_method_26_code 1 = .ok (.invokespecial 270, 3) := by decide +kernel
theorem d10_4 : decode jdk_35_method_26_code 4 = .ok (.aload_n 0, 1) := by decide +kernel
theorem d10_5 : decode jdk_35_method_26_code 5 = .ok (.lload_n 1, 1) := by decide +kernel
theorem d10_6 : decode jdk_35_method_26_code 6 = .ok (.putfield 273, 3) := by decide +kernel
theorem d10_9 : decode jdk_35_method_26_code 9 = .ok (.return_, 1) := by decide +kernel
def Q_longinit (Z : State) (zc : Int32) (wc : Addr) (clc : Cell) (a1 : Addr) (q1 : Int64) (h0 : Heap) (v : Option Value) (h : Heap) (L : List Loc) : Prop := (v = none ∧ Fr Z.heap.size L ∧ Keep h0 h [a1] ∧ Fld Z h a1 "java/lang/Long" "value" "J" (.long q1))
theorem ef_longinit (m : MethodId) (x0 : Addr) (x1 : Int64) : entryFrame m #[(.ref x0), (.long x1)] 3 = mkF m 0 #[rv x0, .val (.long x1), .second] [] := by first | (simp [entryFrame, mkF, argsToLocals, Value.category]; done) | rfl
set_option maxRecDepth 65536 in
set_option maxHeartbeats 40000000 in
theorem rm_longinit (l : Launch) (Z : State) (a0 : Array Value) (hw : ∀ d ∈ tables_1, d.before a0 Z = true) {zc : Int32} {wc : Addr} {clc : Cell} (oCS : Sta Z Z.heap "java/lang/String" "COMPACT_STRINGS" "Z" (.int zc)) (oCz : ¬ zc = (0 : Int32)) (oCa : Sta Z Z.heap "java/lang/Long$LongCache" "cache" "[Ljava/lang/Long;" (.ref wc)) (oBx : Bxs Z wc clc "java/lang/Long" "J" (256 : Int32) own_bxv) (ws : List Jvm.Cond) (a1 : Addr) (q1 : Int64) (h0 : Heap) (O0 : Ext Z.heap h0) (fp0 : Exa Z h0 a1 "java/lang/Long") (fp1 : Fld Z h0 a1 "java/lang/Long" "value" "J" (.long (0 : Int64))) (big_a1 : Z.heap.size ≤ a1) :
    own_MF l Z h0 (⟨"java/lang/Long", "<init>", "(J)V"⟩ : MethodName) jdk_35_method_26_code 3 none ({ frames := 2, cells := 0, slots := 0, locals := 24 } : Room) #[(.ref a1), (.long q1)] (Q_longinit Z zc wc clc a1 q1 h0) ws := by
  refine own_met (Q := (Q_longinit Z zc wc clc a1 q1 h0)) _ _ (plainFor_of_name own_pn_2) ?_
  intro p e s m below meth c T X0 hx hby hml hret hlk hZ hown hnm e0
  replace hown : s.vm.findClass "java/lang/Long" = some m.cls := hown
  replace hnm : meth.name = "<init>" := hnm
  have hml : c.maxLocals = 3 := hml
  have N0 := Fr.nil Z.heap.size
  have K0 := Keep.refl h0 [a1]
  refine own_go (fun _ k => castTop (ef_longinit m a1 q1) k) ?_
  show own_Go p e below s _ _ _ (T.setTop (mkF m 0 #[rv a1, .val (.long q1), .second] []))
  refine own_go (fun _ k => XS.aloadN X0.here hx rfl (hb hby d10_0) rfl rfl k) ?_
  show own_Go p e below s _ _ _ (T.setTop (mkF m 1 #[rv a1, .val (.long q1), .second] [(.ref a1)]))
  obtain ⟨v1, T1, L1, X1, hQ1, st1⟩ := own_callI (y := (⟨"java/lang/Number", "<init>", "()V"⟩ : MethodName)) X0 hx hZ hown (ow69 hw) (ow70 hw) (ow73 hw) (ow74 hw) (rm_numinit l Z a0 hw oCS oCz oCa oBx [] a1 h0 O0) 0 0 0 rfl (by show _ ≤ 0; omega) (by show _ ≤ 0; omega) e0 (g := (mkF m 1 #[rv a1, .val (.long q1), .second] [(.ref a1)])) rfl (by rw [hml]; rfl) a1 [] [] (lenOf own_pd_1 rfl) rfl rfl (hb hby d10_1)
  obtain ⟨rfl, Nc3, Kc2⟩ := hQ1
  refine own_go st1 ?_
  clear st1 X0 e0
  replace N0 := Fr.app N0 Nc3
  clear Nc3
  show own_Go p e below s _ _ _ (T1.setTop (mkF m 4 #[rv a1, .val (.long q1), .second] []))
  refine own_go (fun _ k => XS.aloadN X1.here hx rfl (hb hby d10_4) rfl rfl k) ?_
  show own_Go p e below s _ _ _ (T1.setTop (mkF m 5 #[rv a1, .val (.long q1), .second] [(.ref a1)]))
  refine own_go (fun _ k => XS.lloadN X1.here hx rfl (hb hby d10_5) rfl k) ?_
  show own_Go p e below s _ _ _ (T1.setTop (mkF m 6 #[rv a1, .val (.long q1), .second] [(.long q1), (.ref a1)]))
  obtain ⟨T4, h4, X4, e4, W4, st4⟩ := putF X1 hx hZ hown (host := "") (Or.inl (ow76 hw)) Via.refl Kc2 fp1 fp0 (Or.inr ⟨(ow77 hw), rfl, hnm⟩) (ow64 hw) (ty := .long) own_fd2 rfl rfl (g := (mkF m 6 #[rv a1, .val (.long q1), .second] [(.long q1), (.ref a1)])) rfl rfl (hb hby d10_6)
  refine own_go st4 ?_
  clear st4 X1 Kc2
  replace N0 := Fr.snoc X4 N0 big_a1
  replace fp0 := fp0.wr W4
  replace fp1 := fp1.same W4
  replace O0 := own_oldWr O0 W4 big_a1
  replace K0 := K0.wr W4 (Or.inl (List.mem_of_getElem? (i := 0) rfl))
  clear W4
  show own_Go p e below s _ _ _ (T4.setTop (mkF m 9 #[rv a1, .val (.long q1), .second] []))
  refine own_retV X4 hx hlk e4 hret (hb hby d10_9) (by show _ ≤ 0; omega) (by show _ ≤ 0; omega) ?_
  exact ⟨rfl, N0, K0, fp1⟩
theorem d9_0 : decode jdk_35_method_24_code 0 = .ok (.sipush 128, 3) := by decide +kernel
theorem d9_3 : decode jdk_35_method_24_code 3 = .ok (.istore_n 2, 1) := by decide +kernel
theorem d9_4 : decode jdk_35_method_24_code 4 = .ok (.lload_n 0, 1) := by decide +kernel
theorem d9_5 : decode jdk_35_method_24_code 5 = .ok (.ldc2_w 230, 3) := by decide +kernel
theorem d9_8 : decode jdk_35_method_24_code 8 = .ok (.lcmp, 1) := by decide +kernel
theorem d9_9 : decode jdk_35_method_24_code 9 = .ok (.ifCond .lt 22, 3) := by decide +kernel
theorem d9_12 : decode jdk_35_method_24_code 12 = .ok (.lload_n 0, 1) := by decide +kernel
theorem d9_13 : decode jdk_35_method_24_code 13 = .ok (.ldc2_w 232, 3) := by decide +kernel
theorem d9_16 : decode jdk_35_method_24_code 16 = .ok (.lcmp, 1) := by decide +kernel
theorem d9_17 : decode jdk_35_method_24_code 17 = .ok (.ifCond .gt 14, 3) := by decide +kernel
theorem d9_20 : decode jdk_35_method_24_code 20 = .ok (.getstatic 234, 3) := by decide +kernel
theorem d9_23 : decode jdk_35_method_24_code 23 = .ok (.lload_n 0, 1) := by decide +kernel
theorem d9_24 : decode jdk_35_method_24_code 24 = .ok (.l2i, 1) := by decide +kernel
theorem d9_25 : decode jdk_35_method_24_code 25 = .ok (.sipush 128, 3) := by decide +kernel
theorem d9_28 : decode jdk_35_method_24_code 28 = .ok (.iadd, 1) := by decide +kernel
theorem d9_29 : decode jdk_35_method_24_code 29 = .ok (.aaload, 1) := by decide +kernel
theorem d9_30 : decode jdk_35_method_24_code 30 = .ok (.areturn, 1) := by decide +kernel
theorem d9_31 : decode jdk_35_method_24_code 31 = .ok (.new 1, 3) := by decide +kernel
theorem d9_34 : decode jdk_35_method_24_code 34 = .ok (.dup, 1) := by decide +kernel
theorem d9_35 : decode jdk_35_method_24_code 35 = .ok (.lload_n 0, 1) := by decide +kernel
theorem d9_36 : decode jdk_35_method_24_code 36 = .ok (.invokespecial 240, 3) := by decide +kernel
theorem d9_39 : decode jdk_35_method_24_code 39 = .ok (.areturn, 1) := by decide +kernel
def Q_valueOf (Z : State) (zc : Int32) (wc : Addr) (clc : Cell) (q1 : Int64) (h0 : Heap) (v : Option Value) (h : Heap) (L : List Loc) : Prop := (∃ b : Addr, v = some (.ref b) ∧ Fr Z.heap.size L ∧ Keep h0 h [] ∧ Exa Z h b "java/lang/Long" ∧ Fld Z h b "java/lang/Long" "value" "J" (.long q1))
theorem ef_valueOf (m : MethodId) (x0 : Int64) : entryFrame m #[(.long x0)] 3 = mkF m 0 #[.val (.long x0), .second, .unset] [] := by first | (simp [entryFrame, mkF, argsToLocals, Value.category]; done) | rfl
set_option maxRecDepth 65536 in
set_option maxHeartbeats 40000000 in
theorem rm_valueOf (l : Launch) (Z : State) (a0 : Array Value) (hw : ∀ d ∈ tables_1, d.before a0 Z = true) {zc : Int32} {wc : Addr} {clc : Cell} (oCS : Sta Z Z.heap "java/lang/String" "COMPACT_STRINGS" "Z" (.int zc)) (oCz : ¬ zc = (0 : Int32)) (oCa : Sta Z Z.heap "java/lang/Long$LongCache" "cache" "[Ljava/lang/Long;" (.ref wc)) (oBx : Bxs Z wc clc "java/lang/Long" "J" (256 : Int32) own_bxv) (ws : List Jvm.Cond) (q1 : Int64) (h0 : Heap) (O0 : Ext Z.heap h0) :
    own_MF l Z h0 (⟨"java/lang/Long", "valueOf", "(J)Ljava/lang/Long;"⟩ : MethodName) jdk_35_method_24_code 3 (some (.object "java/lang/Long")) ({ frames := 3, cells := 1, slots := 1, locals := 39 } : Room) #[(.long q1)] (Q_valueOf Z zc wc clc q1 h0) ws := by
  refine own_met (Q := (Q_valueOf Z zc wc clc q1 h0)) _ _ (plainFor_of_name own_pn_2) ?_
  intro p e s m below meth c T X0 hx hby hml hret hlk hZ hown hnm e0
  replace hown : s.vm.findClass "java/lang/Long" = some m.cls := hown
  replace hnm : meth.name = "valueOf" := hnm
  have hml : c.maxLocals = 3 := hml
  have N0 := Fr.nil Z.heap.size
  have K0 := Keep.refl h0 []
  refine own_go (fun _ k => castTop (ef_valueOf m q1) k) ?_
  show own_Go p e below s _ _ _ (T.setTop (mkF m 0 #[.val (.long q1), .second, .unset] []))
  refine own_go (fun _ k => XS.sipush X0.here hx rfl (hb hby d9_0) k) ?_
  show own_Go p e below s _ _ _ (T.setTop (mkF m 3 #[.val (.long q1), .second, .unset] [(.int (128 : Int32))]))
  refine own_go (fun _ k => XS.istoreN X0.here hx rfl (hb hby d9_3) rfl (l' := #[.val (.long q1), .second, iv (128 : Int32)]) rfl k) ?_
  show own_Go p e below s _ _ _ (T.setTop (mkF m 4 #[.val (.long q1), .second, iv (128 : Int32)] []))
  refine own_go (fun _ k => XS.lloadN X0.here hx rfl (hb hby d9_4) rfl k) ?_
  show own_Go p e below s _ _ _ (T.setTop (mkF m 5 #[.val (.long q1), .second, iv (128 : Int32)] [(.long q1)]))
  refine own_go (X0.ldc2Long hx hown (mvT hZ (ow62 hw)) (g := (mkF m 5 #[.val (.long q1), .second, iv (128 : Int32)] [(.long q1)])) rfl (hb hby d9_5)) ?_
  show own_Go p e below s _ _ _ (T.setTop (mkF m 8 #[.val (.long q1), .second, iv (128 : Int32)] [(.long (-128 : Int64)), (.long q1)]))
  refine own_go (fun _ k => XS.lcmp X0.here hx rfl (hb hby d9_8) rfl k) ?_
  show own_Go p e below s _ _ _ (T.setTop (mkF m 9 #[.val (.long q1), .second, iv (128 : Int32)] [(.int (lcmpW q1 (-128 : Int64)))]))
  by_cases hc1 : q1 < (-128 : Int64)
  · refine own_go (fun _ k => XS.ifYes X0.here hx rfl (pc0 := 9) (pc' := 31) rfl (hb hby d9_9) rfl ((if0 _ _).trans (tlt ((lw_lt _ _).mpr hc1)).1) (by decide) (by decide) k) ?_
    show own_Go p e below s _ _ _ (T.setTop (mkF m 31 #[.val (.long q1), .second, iv (128 : Int32)] []))
    obtain ⟨T2, h2, X2, e2, E2, A2, D2, -, st2⟩ := newO X0 hx hZ hown (ow63 hw) (ow64 hw) (ow60 hw) e0 (g := (mkF m 31 #[.val (.long q1), .second, iv (128 : Int32)] [])) rfl (hb hby d9_31) (by show _ ≤ 1; omega) (by show _ ≤ 1; omega)
    obtain ⟨b2, g2⟩ : ∃ z, z = h0.size := ⟨_, rfl⟩
    rw [← g2] at A2 D2 st2
    refine own_go st2 ?_
    clear st2 X0 e0
    have ge2 := Nat.le_of_eq g2.symm
    have big3 : Z.heap.size ≤ b2 := Nat.le_trans O0.1 ge2
    have sz4 : h0.size ≤ b2 := Nat.le_trans K0.1 ge2
    replace O0 := own_oldExt O0 E2
    replace K0 := K0.ext E2
    clear E2
    have f5 : Fld Z h2 b2 "java/lang/Long" "value" "J" (.long (0 : Int64)) := D2 (Or.inr (ow77 hw)) (ty := .long) own_fd2
    show own_Go p e below s _ _ _ (T2.setTop (mkF m 34 #[.val (.long q1), .second, iv (128 : Int32)] [(.ref b2)]))
    refine own_go (fun _ k => XS.dup X2.here hx rfl (hb hby d9_34) rfl rfl k) ?_
    show own_Go p e below s _ _ _ (T2.setTop (mkF m 35 #[.val (.long q1), .second, iv (128 : Int32)] [(.ref b2), (.ref b2)]))
    refine own_go (fun _ k => XS.lloadN X2.here hx rfl (hb hby d9_35) rfl k) ?_
    show own_Go p e below s _ _ _ (T2.setTop (mkF m 36 #[.val (.long q1), .second, iv (128 : Int32)] [(.long q1), (.ref b2), (.ref b2)]))
    obtain ⟨v6, T6, L6, X6, hQ6, st6⟩ := own_callI (y := (⟨"java/lang/Long", "<init>", "(J)V"⟩ : MethodName)) X2 hx hZ hown (ow65 hw) (ow66 hw) (ow60 hw) (ow68 hw) (rm_longinit l Z a0 hw oCS oCz oCa oBx [] b2 q1 h2 O0 A2 f5 big3) 1 0 0 rfl (by show _ ≤ 1; omega) (by show _ ≤ 1; omega) e2 (g := (mkF m 36 #[.val (.long q1), .second, iv (128 : Int32)] [(.long q1), (.ref b2), (.ref b2)])) rfl (by rw [hml]; rfl) b2 [(.long q1)] [(.ref b2)] (lenOf own_pd_2 rfl) rfl rfl (hb hby d9_36)
    obtain ⟨rfl, Nc9, Kc8, f7⟩ := hQ6
    refine own_go st6 ?_
    clear st6 X2 e2
    replace N0 := Fr.app N0 Nc9
    clear Nc9
    replace A2 := A2.keep Kc8
    clear f5
    replace O0 := own_oldKeep O0 Kc8 (allS big3 all0)
    replace K0 := K0.trans Kc8 (allS (Or.inr sz4) all0)
    clear Kc8
    show own_Go p e below s _ _ _ (T6.setTop (mkF m 39 #[.val (.long q1), .second, iv (128 : Int32)] [(.ref b2)]))
    refine own_retA X6 hx hlk (rfl : T6.heap = T6.heap) hret rfl rfl (hb hby d9_39) (by show _ ≤ 1; omega) (by show _ ≤ 1; omega) ?_
    exact ⟨b2, rfl, N0, K0, A2, f7⟩
  · refine own_go (fun _ k => XS.ifNo X0.here hx rfl (hb hby d9_9) rfl ((if0 _ _).trans (flt (fun q => hc1 ((lw_lt _ _).mp q))).1) k) ?_
    show own_Go p e below s _ _ _ (T.setTop (mkF m 12 #[.val (.long q1), .second, iv (128 : Int32)] []))
    refine own_go (fun _ k => XS.lloadN X0.here hx rfl (hb hby d9_12) rfl k) ?_
    show own_Go p e below s _ _ _ (T.setTop (mkF m 13 #[.val (.long q1), .second, iv (128 : Int32)] [(.long q1)]))
    refine own_go (X0.ldc2Long hx hown (mvT hZ (ow81 hw)) (g := (mkF m 13 #[.val (.long q1), .second, iv (128 : Int32)] [(.long q1)])) rfl (hb hby d9_13)) ?_
    show own_Go p e below s _ _ _ (T.setTop (mkF m 16 #[.val (.long q1), .second, iv (128 : Int32)] [(.long (127 : Int64)), (.long q1)]))
    refine own_go (fun _ k => XS.lcmp X0.here hx rfl (hb hby d9_16) rfl k) ?_
    show own_Go p e below s _ _ _ (T.setTop (mkF m 17 #[.val (.long q1), .second, iv (128 : Int32)] [(.int (lcmpW q1 (127 : Int64)))]))
    by_cases hc10 : (127 : Int64) < q1
    · refine own_go (fun _ k => XS.ifYes X0.here hx rfl (pc0 := 17) (pc' := 31) rfl (hb hby d9_17) rfl ((if0 _ _).trans (tlt ((lw_gt _ _).mpr hc10)).2.2.1) (by decide) (by decide) k) ?_
      show own_Go p e below s _ _ _ (T.setTop (mkF m 31 #[.val (.long q1), .second, iv (128 : Int32)] []))
      obtain ⟨T11, h11, X11, e11, E11, A11, D11, -, st11⟩ := newO X0 hx hZ hown (ow63 hw) (ow64 hw) (ow60 hw) e0 (g := (mkF m 31 #[.val (.long q1), .second, iv (128 : Int32)] [])) rfl (hb hby d9_31) (by show _ ≤ 1; omega) (by show _ ≤ 1; omega)
      obtain ⟨b11, g11⟩ : ∃ z, z = h0.size := ⟨_, rfl⟩
      rw [← g11] at A11 D11 st11
      refine own_go st11 ?_
      clear st11 X0 e0
      have ge11 := Nat.le_of_eq g11.symm
      have big12 : Z.heap.size ≤ b11 := Nat.le_trans O0.1 ge11
      have sz13 : h0.size ≤ b11 := Nat.le_trans K0.1 ge11
      replace O0 := own_oldExt O0 E11
      replace K0 := K0.ext E11
      clear E11
      have f14 : Fld Z h11 b11 "java/lang/Long" "value" "J" (.long (0 : Int64)) := D11 (Or.inr (ow77 hw)) (ty := .long) own_fd2
      show own_Go p e below s _ _ _ (T11.setTop (mkF m 34 #[.val (.long q1), .second, iv (128 : Int32)] [(.ref b11)]))
      refine own_go (fun _ k => XS.dup X11.here hx rfl (hb hby d9_34) rfl rfl k) ?_
      show own_Go p e below s _ _ _ (T11.setTop (mkF m 35 #[.val (.long q1), .second, iv (128 : Int32)] [(.ref b11), (.ref b11)]))
      refine own_go (fun _ k => XS.lloadN X11.here hx rfl (hb hby d9_35) rfl k) ?_
      show own_Go p e below s _ _ _ (T11.setTop (mkF m 36 #[.val (.long q1), .second, iv (128 : Int32)] [(.long q1), (.ref b11), (.ref b11)]))
      obtain ⟨v15, T15, L15, X15, hQ15, st15⟩ := own_callI (y := (⟨"java/lang/Long", "<init>", "(J)V"⟩ : MethodName)) X11 hx hZ hown (ow65 hw) (ow66 hw) (ow60 hw) (ow68 hw) (rm_longinit l Z a0 hw oCS oCz oCa oBx [] b11 q1 h11 O0 A11 f14 big12) 1 0 0 rfl (by show _ ≤ 1; omega) (by show _ ≤ 1; omega) e11 (g := (mkF m 36 #[.val (.long q1), .second, iv (128 : Int32)] [(.long q1), (.ref b11), (.ref b11)])) rfl (by rw [hml]; rfl) b11 [(.long q1)] [(.ref b11)] (lenOf own_pd_2 rfl) rfl rfl (hb hby d9_36)
      obtain ⟨rfl, Nc18, Kc17, f16⟩ := hQ15
      refine own_go st15 ?_
      clear st15 X11 e11
      replace N0 := Fr.app N0 Nc18
      clear Nc18
      replace A11 := A11.keep Kc17
      clear f14
      replace O0 := own_oldKeep O0 Kc17 (allS big12 all0)
      replace K0 := K0.trans Kc17 (allS (Or.inr sz13) all0)
      clear Kc17
      show own_Go p e below s _ _ _ (T15.setTop (mkF m 39 #[.val (.long q1), .second, iv (128 : Int32)] [(.ref b11)]))
      refine own_retA X15 hx hlk (rfl : T15.heap = T15.heap) hret rfl rfl (hb hby d9_39) (by show _ ≤ 1; omega) (by show _ ≤ 1; omega) ?_
      exact ⟨b11, rfl, N0, K0, A11, f16⟩
    · refine own_go (fun _ k => XS.ifNo X0.here hx rfl (hb hby d9_17) rfl ((if0 _ _).trans (flt (fun q => hc10 ((lw_gt _ _).mp q))).2.2.1) k) ?_
      show own_Go p e below s _ _ _ (T.setTop (mkF m 20 #[.val (.long q1), .second, iv (128 : Int32)] []))
      obtain ⟨T19, X19, e19, st19⟩ := getS2 X0 hx hZ hown (host := "") (Or.inl (ow82 hw)) Via.refl e0 (oCa.ext O0) (g := (mkF m 20 #[.val (.long q1), .second, iv (128 : Int32)] [])) rfl (hb hby d9_20)
      refine own_go st19 ?_
      clear st19 X0 e0
      show own_Go p e below s _ _ _ (T19.setTop (mkF m 23 #[.val (.long q1), .second, iv (128 : Int32)] [(.ref wc)]))
      refine own_go (fun _ k => XS.lloadN X19.here hx rfl (hb hby d9_23) rfl k) ?_
      show own_Go p e below s _ _ _ (T19.setTop (mkF m 24 #[.val (.long q1), .second, iv (128 : Int32)] [(.long q1), (.ref wc)]))
      refine own_go (fun _ k => XS.l2i X19.here hx rfl (hb hby d9_24) rfl k) ?_
      show own_Go p e below s _ _ _ (T19.setTop (mkF m 25 #[.val (.long q1), .second, iv (128 : Int32)] [(.int (q1.toInt32)), (.ref wc)]))
      refine own_go (fun _ k => XS.sipush X19.here hx rfl (hb hby d9_25) k) ?_
      show own_Go p e below s _ _ _ (T19.setTop (mkF m 28 #[.val (.long q1), .second, iv (128 : Int32)] [(.int (128 : Int32)), (.int (q1.toInt32)), (.ref wc)]))
      refine own_go (fun _ k => XS.iadd X19.here hx rfl (hb hby d9_28) rfl k) ?_
      show own_Go p e below s _ _ _ (T19.setTop (mkF m 29 #[.val (.long q1), .second, iv (128 : Int32)] [(.int ((q1.toInt32) + (128 : Int32))), (.ref wc)]))
      have A20 := oBx.ext O0
      have pl20 := own_place A20.2.1 hc1 hc10
      obtain ⟨w20, at20, we20, wf20⟩ := oBx.2.2.2 _ pl20.1
      rw [pl20.2] at wf20
      refine own_go (X19.aaload hx (j := ((q1.toInt32) + (128 : Int32))) (v := (.ref w20)) (by rw [e19]; exact A20.1.1) (State.isArrayOf_alike hZ.alike A20.1.2.1) rfl A20.1.2.2 pl20.1 at20 (g := (mkF m 29 #[.val (.long q1), .second, iv (128 : Int32)] [(.int ((q1.toInt32) + (128 : Int32))), (.ref wc)])) rfl rfl (hb hby d9_29)) ?_
      have f21 := we20.ext O0
      have f22 := wf20.ext O0
      show own_Go p e below s _ _ _ (T19.setTop (mkF m 30 #[.val (.long q1), .second, iv (128 : Int32)] [(.ref w20)]))
      refine own_retA X19 hx hlk e19 hret rfl rfl (hb hby d9_30) (by show _ ≤ 1; omega) (by show _ ≤ 1; omega) ?_
      exact ⟨w20, rfl, N0, K0, f21, f22⟩
theorem d5_0 : decode jdk_30_method_1_code 0 = .ok (.aload_n 0, 1) := by decide +kernel
theorem d5_1 : decode jdk_30_method_1_code 1 = .ok (.invokespecial 1, 3) := by decide +kernel
theorem d5_4 : decode jdk_30_method_1_code 4 = .ok (.return_, 1) := by decide +kernel
def Q_recinit (Z : State) (zc : Int32) (wc : Addr) (clc : Cell) (a1 : Addr) (h0 : Heap) (v : Option Value) (h : Heap) (L : List Loc) : Prop := (v = none ∧ Fr Z.heap.size L ∧ h = h0)
theorem ef_recinit (m : MethodId) (x0 : Addr) : entryFrame m #[(.ref x0)] 1 = mkF m 0 #[rv x0] [] := by first | (simp [entryFrame, mkF, argsToLocals, Value.category]; done) | rfl
set_option maxRecDepth 65536 in
set_option maxHeartbeats 40000000 in
theorem rm_recinit (l : Launch) (Z : State) (a0 : Array Value) (hw : ∀ d ∈ tables_1, d.before a0 Z = true) {zc : Int32} {wc : Addr} {clc : Cell} (oCS : Sta Z Z.heap "java/lang/String" "COMPACT_STRINGS" "Z" (.int zc)) (oCz : ¬ zc = (0 : Int32)) (oCa : Sta Z Z.heap "java/lang/Long$LongCache" "cache" "[Ljava/lang/Long;" (.ref wc)) (oBx : Bxs Z wc clc "java/lang/Long" "J" (256 : Int32) own_bxv) (ws : List Jvm.Cond) (a1 : Addr) (h0 : Heap) (O0 : Ext Z.heap h0) :
    own_MF l Z h0 (⟨"java/lang/Record", "<init>", "()V"⟩ : MethodName) jdk_30_method_1_code 1 none ({ frames := 1, cells := 0, slots := 0, locals := 12 } : Room) #[(.ref a1)] (Q_recinit Z zc wc clc a1 h0) ws := by
  refine own_met (Q := (Q_recinit Z zc wc clc a1 h0)) _ _ (plainFor_of_name own_pn_3) ?_
  intro p e s m below meth c T X0 hx hby hml hret hlk hZ hown hnm e0
  replace hown : s.vm.findClass "java/lang/Record" = some m.cls := hown
  replace hnm : meth.name = "<init>" := hnm
  have hml : c.maxLocals = 1 := hml
  have N0 := Fr.nil Z.heap.size
  have K0 := Keep.refl h0 []
  refine own_go (fun _ k => castTop (ef_recinit m a1) k) ?_
  show own_Go p e below s _ _ _ (T.setTop (mkF m 0 #[rv a1] []))
  refine own_go (fun _ k => XS.aloadN X0.here hx rfl (hb hby d5_0) rfl rfl k) ?_
  show own_Go p e below s _ _ _ (T.setTop (mkF m 1 #[rv a1] [(.ref a1)]))
  obtain ⟨T1, X1, e1, st1⟩ := initO X0 hx hZ hown (ow34 hw) (ow13 hw) (ow14 hw) e0 (g := (mkF m 1 #[rv a1] [(.ref a1)])) rfl (by rw [hml]; rfl) rfl (hb hby d5_1) (by decide) (W := 0) (by show 2 * 0 + _ ≤ _; exact Nat.le_of_eq rfl) (by decide)
  refine own_go st1 ?_
  clear st1 X0 e0
  show own_Go p e below s _ _ _ (T1.setTop (mkF m 4 #[rv a1] []))
  refine own_retV X1 hx hlk e1 hret (hb hby d5_4) (by show _ ≤ 0; omega) (by show _ ≤ 0; omega) ?_
  exact ⟨rfl, N0, rfl⟩
theorem d4_0 : decode prog_24_method_1_code 0 = .ok (.aload_n 0, 1) := by decide +kernel
theorem d4_1 : decode prog_24_method_1_code 1 = .ok (.invokespecial 1, 3) := by decide +kernel
theorem d4_4 : decode prog_24_method_1_code 4 = .ok (.aload_n 0, 1) := by decide +kernel
theorem d4_5 : decode prog_24_method_1_code 5 = .ok (.aload_n 1, 1) := by decide +kernel
theorem d4_6 : decode prog_24_method_1_code 6 = .ok (.putfield 7, 3) := by decide +kernel
theorem d4_9 : decode prog_24_method_1_code 9 = .ok (.aload_n 0, 1) := by decide +kernel
theorem d4_10 : decode prog_24_method_1_code 10 = .ok (.aload_n 2, 1) := by decide +kernel
theorem d4_11 : decode prog_24_method_1_code 11 = .ok (.putfield 13, 3) := by decide +kernel
theorem d4_14 : decode prog_24_method_1_code 14 = .ok (.aload_n 0, 1) := by decide +kernel
theorem d4_15 : decode prog_24_method_1_code 15 = .ok (.aload_n 3, 1) := by decide +kernel
theorem d4_16 : decode prog_24_method_1_code 16 = .ok (.putfield 17, 3) := by decide +kernel
theorem d4_19 : decode prog_24_method_1_code 19 = .ok (.aload_n 0, 1) := by decide +kernel
theorem d4_20 : decode prog_24_method_1_code 20 = .ok (.aload 4, 2) := by decide +kernel
theorem d4_22 : decode prog_24_method_1_code 22 = .ok (.putfield 20, 3) := by decide +kernel
theorem d4_25 : decode prog_24_method_1_code 25 = .ok (.aload_n 0, 1) := by decide +kernel
theorem d4_26 : decode prog_24_method_1_code 26 = .ok (.aload 5, 2) := by decide +kernel
theorem d4_28 : decode prog_24_method_1_code 28 = .ok (.putfield 23, 3) := by decide +kernel
theorem d4_31 : decode prog_24_method_1_code 31 = .ok (.return_, 1) := by decide +kernel
def Q_xinit (Z : State) (zc : Int32) (wc : Addr) (clc : Cell) (a1 : Addr) (gv2 : Value) (gv3 : Value) (gv4 : Value) (gv5 : Value) (gv6 : Value) (h0 : Heap) (v : Option Value) (h : Heap) (L : List Loc) : Prop := (v = none ∧ Fr Z.heap.size L ∧ Keep h0 h [a1] ∧ Exa Z h a1 "com/example/countersign/countersign/server/Exchange" ∧ Fld Z h a1 "com/example/countersign/countersign/server/Exchange" "artefact" "Ljava/lang/String;" gv2 ∧ Fld Z h a1 "com/example/countersign/countersign/server/Exchange" "activatedAt" "Ljava/lang/Long;" gv3 ∧ Fld Z h a1 "com/example/countersign/countersign/server/Exchange" "expiresAt" "Ljava/lang/Long;" gv4 ∧ Fld Z h a1 "com/example/countersign/countersign/server/Exchange" "refreshAt" "Ljava/lang/Long;" gv5 ∧ Fld Z h a1 "com/example/countersign/countersign/server/Exchange" "failure" "Ljava/lang/String;" gv6)
theorem ef_xinit (m : MethodId) (x0 : Addr) (x1 : Value) (hx1 : x1.isRef = true) (x2 : Value) (hx2 : x2.isRef = true) (x3 : Value) (hx3 : x3.isRef = true) (x4 : Value) (hx4 : x4.isRef = true) (x5 : Value) (hx5 : x5.isRef = true) : entryFrame m #[(.ref x0), x1, x2, x3, x4, x5] 6 = mkF m 0 #[rv x0, .val x1, .val x2, .val x3, .val x4, .val x5] [] := by first | (simp [entryFrame, mkF, argsToLocals, own_catR, own_catN, own_catI, own_catJ, own_cat1 hx1, own_cat1 hx2, own_cat1 hx3, own_cat1 hx4, own_cat1 hx5]; done) | rfl
set_option maxRecDepth 65536 in
set_option maxHeartbeats 40000000 in
theorem rm_xinit (l : Launch) (Z : State) (a0 : Array Value) (hw : ∀ d ∈ tables_1, d.before a0 Z = true) {zc : Int32} {wc : Addr} {clc : Cell} (oCS : Sta Z Z.heap "java/lang/String" "COMPACT_STRINGS" "Z" (.int zc)) (oCz : ¬ zc = (0 : Int32)) (oCa : Sta Z Z.heap "java/lang/Long$LongCache" "cache" "[Ljava/lang/Long;" (.ref wc)) (oBx : Bxs Z wc clc "java/lang/Long" "J" (256 : Int32) own_bxv) (ws : List Jvm.Cond) (a1 : Addr) (gv2 : Value) (gv3 : Value) (gv4 : Value) (gv5 : Value) (gv6 : Value) (h0 : Heap) (O0 : Ext Z.heap h0) (r_gv2 : gv2.isRef = true) (r_gv3 : gv3.isRef = true) (r_gv4 : gv4.isRef = true) (r_gv5 : gv5.isRef = true) (r_gv6 : gv6.isRef = true) (fp0 : Exa Z h0 a1 "com/example/countersign/countersign/server/Exchange") (fp1 : Fld Z h0 a1 "com/example/countersign/countersign/server/Exchange" "artefact" "Ljava/lang/String;" .null) (fp2 : Fld Z h0 a1 "com/example/countersign/countersign/server/Exchange" "activatedAt" "Ljava/lang/Long;" .null) (fp3 : Fld Z h0 a1 "com/example/countersign/countersign/server/Exchange" "expiresAt" "Ljava/lang/Long;" .null) (fp4 : Fld Z h0 a1 "com/example/countersign/countersign/server/Exchange" "refreshAt" "Ljava/lang/Long;" .null) (fp5 : Fld Z h0 a1 "com/example/countersign/countersign/server/Exchange" "failure" "Ljava/lang/String;" .null) (big_a1 : Z.heap.size ≤ a1) :
    own_MF l Z h0 (⟨"com/example/countersign/countersign/server/Exchange", "<init>", "(Ljava/lang/String;Ljava/lang/Long;Ljava/lang/Long;Ljava/lang/Long;Ljava/lang/String;)V"⟩ : MethodName) prog_24_method_1_code 6 none ({ frames := 2, cells := 0, slots := 0, locals := 24 } : Room) #[(.ref a1), gv2, gv3, gv4, gv5, gv6] (Q_xinit Z zc wc clc a1 gv2 gv3 gv4 gv5 gv6 h0) ws := by
  refine own_met (Q := (Q_xinit Z zc wc clc a1 gv2 gv3 gv4 gv5 gv6 h0)) _ _ (plainFor_of_name own_pn_4) ?_
  intro p e s m below meth c T X0 hx hby hml hret hlk hZ hown hnm e0
  replace hown : s.vm.findClass "com/example/countersign/countersign/server/Exchange" = some m.cls := hown
  replace hnm : meth.name = "<init>" := hnm
  have hml : c.maxLocals = 6 := hml
  have N0 := Fr.nil Z.heap.size
  have K0 := Keep.refl h0 [a1]
  refine own_go (fun _ k => castTop (ef_xinit m a1 gv2 r_gv2 gv3 r_gv3 gv4 r_gv4 gv5 r_gv5 gv6 r_gv6) k) ?_
  show own_Go p e below s _ _ _ (T.setTop (mkF m 0 #[rv a1, .val gv2, .val gv3, .val gv4, .val gv5, .val gv6] []))
  refine own_go (fun _ k => XS.aloadN X0.here hx rfl (hb hby d4_0) rfl rfl k) ?_
  show own_Go p e below s _ _ _ (T.setTop (mkF m 1 #[rv a1, .val gv2, .val gv3, .val gv4, .val gv5, .val gv6] [(.ref a1)]))
  obtain ⟨v1, T1, L1, X1, hQ1, st1⟩ := own_callI (y := (⟨"java/lang/Record", "<init>", "()V"⟩ : MethodName)) X0 hx hZ hown (ow29 hw) (ow30 hw) (ow32 hw) (ow33 hw) (rm_recinit l Z a0 hw oCS oCz oCa oBx [] a1 h0 O0) 0 0 0 rfl (by show _ ≤ 0; omega) (by show _ ≤ 0; omega) e0 (g := (mkF m 1 #[rv a1, .val gv2, .val gv3, .val gv4, .val gv5, .val gv6] [(.ref a1)])) rfl (by rw [hml]; rfl) a1 [] [] (lenOf own_pd_1 rfl) rfl rfl (hb hby d4_1)
  obtain ⟨rfl, Nc3, Kc2⟩ := hQ1
  refine own_go st1 ?_
  clear st1 X0 e0
  replace N0 := Fr.app N0 Nc3
  clear Nc3
  show own_Go p e below s _ _ _ (T1.setTop (mkF m 4 #[rv a1, .val gv2, .val gv3, .val gv4, .val gv5, .val gv6] []))
  refine own_go (fun _ k => XS.aloadN X1.here hx rfl (hb hby d4_4) rfl rfl k) ?_
  show own_Go p e below s _ _ _ (T1.setTop (mkF m 5 #[rv a1, .val gv2, .val gv3, .val gv4, .val gv5, .val gv6] [(.ref a1)]))
  refine own_go (fun _ k => XS.aloadN X1.here hx rfl (hb hby d4_5) rfl r_gv2 k) ?_
  show own_Go p e below s _ _ _ (T1.setTop (mkF m 6 #[rv a1, .val gv2, .val gv3, .val gv4, .val gv5, .val gv6] [gv2, (.ref a1)]))
  obtain ⟨T4, h4, X4, e4, W4, st4⟩ := putF X1 hx hZ hown (host := "") (Or.inl (ow35 hw)) Via.refl Kc2 fp1 fp0 (Or.inr ⟨(ow36 hw), rfl, hnm⟩) (ow24 hw) (ty := (.object "java/lang/String")) own_fd3 (own_narRef _ r_gv2 (by decide)) (own_fitsRef _ r_gv2 (by decide)) (g := (mkF m 6 #[rv a1, .val gv2, .val gv3, .val gv4, .val gv5, .val gv6] [gv2, (.ref a1)])) rfl rfl (hb hby d4_6)
  refine own_go st4 ?_
  clear st4 X1 Kc2
  replace N0 := Fr.snoc X4 N0 big_a1
  replace fp0 := fp0.wr W4
  replace fp1 := fp1.same W4
  replace fp2 := fp2.other W4 (.inr (own_sn1 hw))
  replace fp3 := fp3.other W4 (.inr (own_sn2 hw))
  replace fp4 := fp4.other W4 (.inr (own_sn3 hw))
  replace fp5 := fp5.other W4 (.inr (own_sn4 hw))
  replace O0 := own_oldWr O0 W4 big_a1
  replace K0 := K0.wr W4 (Or.inl (List.mem_of_getElem? (i := 0) rfl))
  clear W4
  show own_Go p e below s _ _ _ (T4.setTop (mkF m 9 #[rv a1, .val gv2, .val gv3, .val gv4, .val gv5, .val gv6] []))
  refine own_go (fun _ k => XS.aloadN X4.here hx rfl (hb hby d4_9) rfl rfl k) ?_
  show own_Go p e below s _ _ _ (T4.setTop (mkF m 10 #[rv a1, .val gv2, .val gv3, .val gv4, .val gv5, .val gv6] [(.ref a1)]))
  refine own_go (fun _ k => XS.aloadN X4.here hx rfl (hb hby d4_10) rfl r_gv3 k) ?_
  show own_Go p e below s _ _ _ (T4.setTop (mkF m 11 #[rv a1, .val gv2, .val gv3, .val gv4, .val gv5, .val gv6] [gv3, (.ref a1)]))
  obtain ⟨T5, h5, X5, e5, W5, st5⟩ := putF X4 hx hZ hown (host := "") (Or.inl (ow37 hw)) Via.refl e4 fp2 fp0 (Or.inr ⟨(ow38 hw), rfl, hnm⟩) (ow24 hw) (ty := (.object "java/lang/Long")) own_fd4 (own_narRef _ r_gv3 (by decide)) (own_fitsRef _ r_gv3 (by decide)) (g := (mkF m 11 #[rv a1, .val gv2, .val gv3, .val gv4, .val gv5, .val gv6] [gv3, (.ref a1)])) rfl rfl (hb hby d4_11)
  refine own_go st5 ?_
  clear st5 X4 e4
  replace N0 := Fr.snoc X5 N0 big_a1
  replace fp0 := fp0.wr W5
  replace fp1 := fp1.other W5 (.inr (own_sn1 hw).symm)
  replace fp2 := fp2.same W5
  replace fp3 := fp3.other W5 (.inr (own_sn5 hw))
  replace fp4 := fp4.other W5 (.inr (own_sn6 hw))
  replace fp5 := fp5.other W5 (.inr (own_sn7 hw))
  replace O0 := own_oldWr O0 W5 big_a1
  replace K0 := K0.wr W5 (Or.inl (List.mem_of_getElem? (i := 0) rfl))
  clear W5
  show own_Go p e below s _ _ _ (T5.setTop (mkF m 14 #[rv a1, .val gv2, .val gv3, .val gv4, .val gv5, .val gv6] []))
  refine own_go (fun _ k => XS.aloadN X5.here hx rfl (hb hby d4_14) rfl rfl k) ?_
  show own_Go p e below s _ _ _ (T5.setTop (mkF m 15 #[rv a1, .val gv2, .val gv3, .val gv4, .val gv5, .val gv6] [(.ref a1)]))
  refine own_go (fun _ k => XS.aloadN X5.here hx rfl (hb hby d4_15) rfl r_gv4 k) ?_
  show own_Go p e below s _ _ _ (T5.setTop (mkF m 16 #[rv a1, .val gv2, .val gv3, .val gv4, .val gv5, .val gv6] [gv4, (.ref a1)]))
  obtain ⟨T6, h6, X6, e6, W6, st6⟩ := putF X5 hx hZ hown (host := "") (Or.inl (ow39 hw)) Via.refl e5 fp3 fp0 (Or.inr ⟨(ow40 hw), rfl, hnm⟩) (ow24 hw) (ty := (.object "java/lang/Long")) own_fd4 (own_narRef _ r_gv4 (by decide)) (own_fitsRef _ r_gv4 (by decide)) (g := (mkF m 16 #[rv a1, .val gv2, .val gv3, .val gv4, .val gv5, .val gv6] [gv4, (.ref a1)])) rfl rfl (hb hby d4_16)
  refine own_go st6 ?_
  clear st6 X5 e5
  replace N0 := Fr.snoc X6 N0 big_a1
  replace fp0 := fp0.wr W6
  replace fp1 := fp1.other W6 (.inr (own_sn2 hw).symm)
  replace fp2 := fp2.other W6 (.inr (own_sn5 hw).symm)
  replace fp3 := fp3.same W6
  replace fp4 := fp4.other W6 (.inr (own_sn8 hw))
  replace fp5 := fp5.other W6 (.inr (own_sn9 hw))
  replace O0 := own_oldWr O0 W6 big_a1
  replace K0 := K0.wr W6 (Or.inl (List.mem_of_getElem? (i := 0) rfl))
  clear W6
  show own_Go p e below s _ _ _ (T6.setTop (mkF m 19 #[rv a1, .val gv2, .val gv3, .val gv4, .val gv5, .val gv6] []))
  refine own_go (fun _ k => XS.aloadN X6.here hx rfl (hb hby d4_19) rfl rfl k) ?_
  show own_Go p e below s _ _ _ (T6.setTop (mkF m 20 #[rv a1, .val gv2, .val gv3, .val gv4, .val gv5, .val gv6] [(.ref a1)]))
  refine own_go (fun _ k => XS.aload X6.here hx rfl (hb hby d4_20) rfl r_gv5 k) ?_
  show own_Go p e below s _ _ _ (T6.setTop (mkF m 22 #[rv a1, .val gv2, .val gv3, .val gv4, .val gv5, .val gv6] [gv5, (.ref a1)]))
  obtain ⟨T7, h7, X7, e7, W7, st7⟩ := putF X6 hx hZ hown (host := "") (Or.inl (ow41 hw)) Via.refl e6 fp4 fp0 (Or.inr ⟨(ow42 hw), rfl, hnm⟩) (ow24 hw) (ty := (.object "java/lang/Long")) own_fd4 (own_narRef _ r_gv5 (by decide)) (own_fitsRef _ r_gv5 (by decide)) (g := (mkF m 22 #[rv a1, .val gv2, .val gv3, .val gv4, .val gv5, .val gv6] [gv5, (.ref a1)])) rfl rfl (hb hby d4_22)
  refine own_go st7 ?_
  clear st7 X6 e6
  replace N0 := Fr.snoc X7 N0 big_a1
  replace fp0 := fp0.wr W7
  replace fp1 := fp1.other W7 (.inr (own_sn3 hw).symm)
  replace fp2 := fp2.other W7 (.inr (own_sn6 hw).symm)
  replace fp3 := fp3.other W7 (.inr (own_sn8 hw).symm)
  replace fp4 := fp4.same W7
  replace fp5 := fp5.other W7 (.inr (own_sn10 hw))
  replace O0 := own_oldWr O0 W7 big_a1
  replace K0 := K0.wr W7 (Or.inl (List.mem_of_getElem? (i := 0) rfl))
  clear W7
  show own_Go p e below s _ _ _ (T7.setTop (mkF m 25 #[rv a1, .val gv2, .val gv3, .val gv4, .val gv5, .val gv6] []))
  refine own_go (fun _ k => XS.aloadN X7.here hx rfl (hb hby d4_25) rfl rfl k) ?_
  show own_Go p e below s _ _ _ (T7.setTop (mkF m 26 #[rv a1, .val gv2, .val gv3, .val gv4, .val gv5, .val gv6] [(.ref a1)]))
  refine own_go (fun _ k => XS.aload X7.here hx rfl (hb hby d4_26) rfl r_gv6 k) ?_
  show own_Go p e below s _ _ _ (T7.setTop (mkF m 28 #[rv a1, .val gv2, .val gv3, .val gv4, .val gv5, .val gv6] [gv6, (.ref a1)]))
  obtain ⟨T8, h8, X8, e8, W8, st8⟩ := putF X7 hx hZ hown (host := "") (Or.inl (ow43 hw)) Via.refl e7 fp5 fp0 (Or.inr ⟨(ow44 hw), rfl, hnm⟩) (ow24 hw) (ty := (.object "java/lang/String")) own_fd3 (own_narRef _ r_gv6 (by decide)) (own_fitsRef _ r_gv6 (by decide)) (g := (mkF m 28 #[rv a1, .val gv2, .val gv3, .val gv4, .val gv5, .val gv6] [gv6, (.ref a1)])) rfl rfl (hb hby d4_28)
  refine own_go st8 ?_
  clear st8 X7 e7
  replace N0 := Fr.snoc X8 N0 big_a1
  replace fp0 := fp0.wr W8
  replace fp1 := fp1.other W8 (.inr (own_sn4 hw).symm)
  replace fp2 := fp2.other W8 (.inr (own_sn7 hw).symm)
  replace fp3 := fp3.other W8 (.inr (own_sn9 hw).symm)
  replace fp4 := fp4.other W8 (.inr (own_sn10 hw).symm)
  replace fp5 := fp5.same W8
  replace O0 := own_oldWr O0 W8 big_a1
  replace K0 := K0.wr W8 (Or.inl (List.mem_of_getElem? (i := 0) rfl))
  clear W8
  show own_Go p e below s _ _ _ (T8.setTop (mkF m 31 #[rv a1, .val gv2, .val gv3, .val gv4, .val gv5, .val gv6] []))
  refine own_retV X8 hx hlk e8 hret (hb hby d4_31) (by show _ ≤ 0; omega) (by show _ ≤ 0; omega) ?_
  exact ⟨rfl, N0, K0, fp0, fp1, fp2, fp3, fp4, fp5⟩
theorem d7_0 : decode prog_24_method_4_code 0 = .ok (.new 8, 3) := by decide +kernel
theorem d7_3 : decode prog_24_method_4_code 3 = .ok (.dup, 1) := by decide +kernel
theorem d7_4 : decode prog_24_method_4_code 4 = .ok (.aconst_null, 1) := by decide +kernel
theorem d7_5 : decode prog_24_method_4_code 5 = .ok (.aconst_null, 1) := by decide +kernel
theorem d7_6 : decode prog_24_method_4_code 6 = .ok (.aconst_null, 1) := by decide +kernel
theorem d7_7 : decode prog_24_method_4_code 7 = .ok (.aconst_null, 1) := by decide +kernel
theorem d7_8 : decode prog_24_method_4_code 8 = .ok (.aload_n 0, 1) := by decide +kernel
theorem d7_9 : decode prog_24_method_4_code 9 = .ok (.invokespecial 32, 3) := by decide +kernel
theorem d7_12 : decode prog_24_method_4_code 12 = .ok (.areturn, 1) := by decide +kernel
def Q_failed (Z : State) (zc : Int32) (wc : Addr) (clc : Cell) (a1 : Addr) (h0 : Heap) (v : Option Value) (h : Heap) (L : List Loc) : Prop := (∃ b : Addr, v = some (.ref b) ∧ Fr Z.heap.size L ∧ Keep h0 h [] ∧ h0.size ≤ b ∧ Exa Z h b "com/example/countersign/countersign/server/Exchange" ∧ Fld Z h b "com/example/countersign/countersign/server/Exchange" "failure" "Ljava/lang/String;" (.ref a1))
theorem ef_failed (m : MethodId) (x0 : Addr) : entryFrame m #[(.ref x0)] 1 = mkF m 0 #[rv x0] [] := by first | (simp [entryFrame, mkF, argsToLocals, Value.category]; done) | rfl
set_option maxRecDepth 65536 in
set_option maxHeartbeats 40000000 in
theorem rm_failed (l : Launch) (Z : State) (a0 : Array Value) (hw : ∀ d ∈ tables_1, d.before a0 Z = true) {zc : Int32} {wc : Addr} {clc : Cell} (oCS : Sta Z Z.heap "java/lang/String" "COMPACT_STRINGS" "Z" (.int zc)) (oCz : ¬ zc = (0 : Int32)) (oCa : Sta Z Z.heap "java/lang/Long$LongCache" "cache" "[Ljava/lang/Long;" (.ref wc)) (oBx : Bxs Z wc clc "java/lang/Long" "J" (256 : Int32) own_bxv) (ws : List Jvm.Cond) (a1 : Addr) (h0 : Heap) (O0 : Ext Z.heap h0) :
    own_MF l Z h0 (⟨"com/example/countersign/countersign/server/Exchange", "failed", "(Ljava/lang/String;)Lcom/example/countersign/countersign/server/Exchange;"⟩ : MethodName) prog_24_method_4_code 1 (some (.object "com/example/countersign/countersign/server/Exchange")) ({ frames := 3, cells := 1, slots := 5, locals := 42 } : Room) #[(.ref a1)] (Q_failed Z zc wc clc a1 h0) ws := by
  refine own_met (Q := (Q_failed Z zc wc clc a1 h0)) _ _ (plainFor_of_name own_pn_4) ?_
  intro p e s m below meth c T X0 hx hby hml hret hlk hZ hown hnm e0
  replace hown : s.vm.findClass "com/example/countersign/countersign/server/Exchange" = some m.cls := hown
  replace hnm : meth.name = "failed" := hnm
  have hml : c.maxLocals = 1 := hml
  have N0 := Fr.nil Z.heap.size
  have K0 := Keep.refl h0 []
  refine own_go (fun _ k => castTop (ef_failed m a1) k) ?_
  show own_Go p e below s _ _ _ (T.setTop (mkF m 0 #[rv a1] []))
  obtain ⟨T1, h1, X1, e1, E1, A1, D1, -, st1⟩ := newO X0 hx hZ hown (ow53 hw) (ow24 hw) (ow25 hw) e0 (g := (mkF m 0 #[rv a1] [])) rfl (hb hby d7_0) (by show _ ≤ 1; omega) (by show _ ≤ 5; omega)
  obtain ⟨b1, g1⟩ : ∃ z, z = h0.size := ⟨_, rfl⟩
  rw [← g1] at A1 D1 st1
  refine own_go st1 ?_
  clear st1 X0 e0
  have ge1 := Nat.le_of_eq g1.symm
  have big2 : Z.heap.size ≤ b1 := Nat.le_trans O0.1 ge1
  have sz3 : h0.size ≤ b1 := Nat.le_trans K0.1 ge1
  replace O0 := own_oldExt O0 E1
  replace K0 := K0.ext E1
  clear E1
  have f4 : Fld Z h1 b1 "com/example/countersign/countersign/server/Exchange" "artefact" "Ljava/lang/String;" .null := D1 (Or.inr (ow36 hw)) (ty := (.object "java/lang/String")) own_fd3
  have f5 : Fld Z h1 b1 "com/example/countersign/countersign/server/Exchange" "activatedAt" "Ljava/lang/Long;" .null := D1 (Or.inr (ow38 hw)) (ty := (.object "java/lang/Long")) own_fd4
  have f6 : Fld Z h1 b1 "com/example/countersign/countersign/server/Exchange" "expiresAt" "Ljava/lang/Long;" .null := D1 (Or.inr (ow40 hw)) (ty := (.object "java/lang/Long")) own_fd4
  have f7 : Fld Z h1 b1 "com/example/countersign/countersign/server/Exchange" "refreshAt" "Ljava/lang/Long;" .null := D1 (Or.inr (ow42 hw)) (ty := (.object "java/lang/Long")) own_fd4
  have f8 : Fld Z h1 b1 "com/example/countersign/countersign/server/Exchange" "failure" "Ljava/lang/String;" .null := D1 (Or.inr (ow44 hw)) (ty := (.object "java/lang/String")) own_fd3
  show own_Go p e below s _ _ _ (T1.setTop (mkF m 3 #[rv a1] [(.ref b1)]))
  refine own_go (fun _ k => XS.dup X1.here hx rfl (hb hby d7_3) rfl rfl k) ?_
  show own_Go p e below s _ _ _ (T1.setTop (mkF m 4 #[rv a1] [(.ref b1), (.ref b1)]))
  refine own_go (fun _ k => XS.aconstNull X1.here hx rfl (hb hby d7_4) k) ?_
  show own_Go p e below s _ _ _ (T1.setTop (mkF m 5 #[rv a1] [.null, (.ref b1), (.ref b1)]))
  refine own_go (fun _ k => XS.aconstNull X1.here hx rfl (hb hby d7_5) k) ?_
  show own_Go p e below s _ _ _ (T1.setTop (mkF m 6 #[rv a1] [.null, .null, (.ref b1), (.ref b1)]))
  refine own_go (fun _ k => XS.aconstNull X1.here hx rfl (hb hby d7_6) k) ?_
  show own_Go p e below s _ _ _ (T1.setTop (mkF m 7 #[rv a1] [.null, .null, .null, (.ref b1), (.ref b1)]))
  refine own_go (fun _ k => XS.aconstNull X1.here hx rfl (hb hby d7_7) k) ?_
  show own_Go p e below s _ _ _ (T1.setTop (mkF m 8 #[rv a1] [.null, .null, .null, .null, (.ref b1), (.ref b1)]))
  refine own_go (fun _ k => XS.aloadN X1.here hx rfl (hb hby d7_8) rfl rfl k) ?_
  show own_Go p e below s _ _ _ (T1.setTop (mkF m 9 #[rv a1] [(.ref a1), .null, .null, .null, .null, (.ref b1), (.ref b1)]))
  obtain ⟨v9, T9, L9, X9, hQ9, st9⟩ := own_callI (y := (⟨"com/example/countersign/countersign/server/Exchange", "<init>", "(Ljava/lang/String;Ljava/lang/Long;Ljava/lang/Long;Ljava/lang/Long;Ljava/lang/String;)V"⟩ : MethodName)) X1 hx hZ hown (ow54 hw) (ow27 hw) (ow25 hw) (ow28 hw) (rm_xinit l Z a0 hw oCS oCz oCa oBx [] b1 .null .null .null .null (.ref a1) h1 O0 (rfl : (.null : Value).isRef = true) (rfl : (.null : Value).isRef = true) (rfl : (.null : Value).isRef = true) (rfl : (.null : Value).isRef = true) (rfl : ((.ref a1) : Value).isRef = true) A1 f4 f5 f6 f7 f8 big2) 1 0 0 rfl (by show _ ≤ 1; omega) (by show _ ≤ 5; omega) e1 (g := (mkF m 9 #[rv a1] [(.ref a1), .null, .null, .null, .null, (.ref b1), (.ref b1)])) rfl (by rw [hml]; rfl) b1 [.null, .null, .null, .null, (.ref a1)] [(.ref b1)] (lenOf own_pd_3 rfl) rfl rfl (hb hby d7_9)
  obtain ⟨rfl, Nc17, Kc16, f10, f11, f12, f13, f14, f15⟩ := hQ9
  refine own_go st9 ?_
  clear st9 X1 e1
  replace N0 := Fr.app N0 Nc17
  clear Nc17
  replace A1 := A1.keep Kc16
  clear f4
  clear f5
  clear f6
  clear f7
  clear f8
  replace O0 := own_oldKeep O0 Kc16 (allS big2 all0)
  replace K0 := K0.trans Kc16 (allS (Or.inr sz3) all0)
  clear Kc16
  show own_Go p e below s _ _ _ (T9.setTop (mkF m 12 #[rv a1] [(.ref b1)]))
  refine own_retA X9 hx hlk (rfl : T9.heap = T9.heap) hret rfl rfl (hb hby d7_12) (by show _ ≤ 1; omega) (by show _ ≤ 5; omega) ?_
  exact ⟨b1, rfl, N0, K0, sz3, f10, f15⟩
theorem d8_0 : decode prog_24_method_2_code 0 = .ok (.new 8, 3) := by decide +kernel
theorem d8_3 : decode prog_24_method_2_code 3 = .ok (.dup, 1) := by decide +kernel
theorem d8_4 : decode prog_24_method_2_code 4 = .ok (.aload_n 0, 1) := by decide +kernel
theorem d8_5 : decode prog_24_method_2_code 5 = .ok (.lload_n 1, 1) := by decide +kernel
theorem d8_6 : decode prog_24_method_2_code 6 = .ok (.invokestatic 26, 3) := by decide +kernel
theorem d8_9 : decode prog_24_method_2_code 9 = .ok (.aconst_null, 1) := by decide +kernel
theorem d8_10 : decode prog_24_method_2_code 10 = .ok (.aconst_null, 1) := by decide +kernel
theorem d8_11 : decode prog_24_method_2_code 11 = .ok (.aconst_null, 1) := by decide +kernel
theorem d8_12 : decode prog_24_method_2_code 12 = .ok (.invokespecial 32, 3) := by decide +kernel
theorem d8_15 : decode prog_24_method_2_code 15 = .ok (.areturn, 1) := by decide +kernel
def Q_lasting (Z : State) (zc : Int32) (wc : Addr) (clc : Cell) (a1 : Addr) (q1 : Int64) (h0 : Heap) (v : Option Value) (h : Heap) (L : List Loc) : Prop := (∃ b : Addr, v = some (.ref b) ∧ Fr Z.heap.size L ∧ Keep h0 h [] ∧ h0.size ≤ b ∧ Exa Z h b "com/example/countersign/countersign/server/Exchange" ∧ Fld Z h b "com/example/countersign/countersign/server/Exchange" "failure" "Ljava/lang/String;" .null)
theorem ef_lasting (m : MethodId) (x0 : Addr) (x1 : Int64) : entryFrame m #[(.ref x0), (.long x1)] 3 = mkF m 0 #[rv x0, .val (.long x1), .second] [] := by first | (simp [entryFrame, mkF, argsToLocals, Value.category]; done) | rfl
set_option maxRecDepth 65536 in
set_option maxHeartbeats 40000000 in
theorem rm_lasting (l : Launch) (Z : State) (a0 : Array Value) (hw : ∀ d ∈ tables_1, d.before a0 Z = true) {zc : Int32} {wc : Addr} {clc : Cell} (oCS : Sta Z Z.heap "java/lang/String" "COMPACT_STRINGS" "Z" (.int zc)) (oCz : ¬ zc = (0 : Int32)) (oCa : Sta Z Z.heap "java/lang/Long$LongCache" "cache" "[Ljava/lang/Long;" (.ref wc)) (oBx : Bxs Z wc clc "java/lang/Long" "J" (256 : Int32) own_bxv) (ws : List Jvm.Cond) (a1 : Addr) (q1 : Int64) (h0 : Heap) (O0 : Ext Z.heap h0) :
    own_MF l Z h0 (⟨"com/example/countersign/countersign/server/Exchange", "lasting", "(Ljava/lang/String;J)Lcom/example/countersign/countersign/server/Exchange;"⟩ : MethodName) prog_24_method_2_code 3 (some (.object "com/example/countersign/countersign/server/Exchange")) ({ frames := 4, cells := 2, slots := 6, locals := 56 } : Room) #[(.ref a1), (.long q1)] (Q_lasting Z zc wc clc a1 q1 h0) ws := by
  refine own_met (Q := (Q_lasting Z zc wc clc a1 q1 h0)) _ _ (plainFor_of_name own_pn_4) ?_
  intro p e s m below meth c T X0 hx hby hml hret hlk hZ hown hnm e0
  replace hown : s.vm.findClass "com/example/countersign/countersign/server/Exchange" = some m.cls := hown
  replace hnm : meth.name = "lasting" := hnm
  have hml : c.maxLocals = 3 := hml
  have N0 := Fr.nil Z.heap.size
  have K0 := Keep.refl h0 []
  refine own_go (fun _ k => castTop (ef_lasting m a1 q1) k) ?_
  show own_Go p e below s _ _ _ (T.setTop (mkF m 0 #[rv a1, .val (.long q1), .second] []))
  obtain ⟨T1, h1, X1, e1, E1, A1, D1, -, st1⟩ := newO X0 hx hZ hown (ow53 hw) (ow24 hw) (ow25 hw) e0 (g := (mkF m 0 #[rv a1, .val (.long q1), .second] [])) rfl (hb hby d8_0) (by show _ ≤ 2; omega) (by show _ ≤ 6; omega)
  obtain ⟨b1, g1⟩ : ∃ z, z = h0.size := ⟨_, rfl⟩
  rw [← g1] at A1 D1 st1
  refine own_go st1 ?_
  clear st1 X0 e0
  have ge1 := Nat.le_of_eq g1.symm
  have big2 : Z.heap.size ≤ b1 := Nat.le_trans O0.1 ge1
  have sz3 : h0.size ≤ b1 := Nat.le_trans K0.1 ge1
  replace O0 := own_oldExt O0 E1
  replace K0 := K0.ext E1
  clear E1
  have f4 : Fld Z h1 b1 "com/example/countersign/countersign/server/Exchange" "artefact" "Ljava/lang/String;" .null := D1 (Or.inr (ow36 hw)) (ty := (.object "java/lang/String")) own_fd3
  have f5 : Fld Z h1 b1 "com/example/countersign/countersign/server/Exchange" "activatedAt" "Ljava/lang/Long;" .null := D1 (Or.inr (ow38 hw)) (ty := (.object "java/lang/Long")) own_fd4
  have f6 : Fld Z h1 b1 "com/example/countersign/countersign/server/Exchange" "expiresAt" "Ljava/lang/Long;" .null := D1 (Or.inr (ow40 hw)) (ty := (.object "java/lang/Long")) own_fd4
  have f7 : Fld Z h1 b1 "com/example/countersign/countersign/server/Exchange" "refreshAt" "Ljava/lang/Long;" .null := D1 (Or.inr (ow42 hw)) (ty := (.object "java/lang/Long")) own_fd4
  have f8 : Fld Z h1 b1 "com/example/countersign/countersign/server/Exchange" "failure" "Ljava/lang/String;" .null := D1 (Or.inr (ow44 hw)) (ty := (.object "java/lang/String")) own_fd3
  show own_Go p e below s _ _ _ (T1.setTop (mkF m 3 #[rv a1, .val (.long q1), .second] [(.ref b1)]))
  refine own_go (fun _ k => XS.dup X1.here hx rfl (hb hby d8_3) rfl rfl k) ?_
  show own_Go p e below s _ _ _ (T1.setTop (mkF m 4 #[rv a1, .val (.long q1), .second] [(.ref b1), (.ref b1)]))
  refine own_go (fun _ k => XS.aloadN X1.here hx rfl (hb hby d8_4) rfl rfl k) ?_
  show own_Go p e below s _ _ _ (T1.setTop (mkF m 5 #[rv a1, .val (.long q1), .second] [(.ref a1), (.ref b1), (.ref b1)]))
  refine own_go (fun _ k => XS.lloadN X1.here hx rfl (hb hby d8_5) rfl k) ?_
  show own_Go p e below s _ _ _ (T1.setTop (mkF m 6 #[rv a1, .val (.long q1), .second] [(.long q1), (.ref a1), (.ref b1), (.ref b1)]))
  obtain ⟨v9, T9, L9, X9, hQ9, st9⟩ := own_callS (y := (⟨"java/lang/Long", "valueOf", "(J)Ljava/lang/Long;"⟩ : MethodName)) X1 hx hZ hown (ow58 hw) (ow59 hw) (ow60 hw) (ow61 hw) (rm_valueOf l Z a0 hw oCS oCz oCa oBx [] q1 h1 O0) 3 1 1 (by show _ ≤ 2; omega) (by show _ ≤ 6; omega) e1 (g := (mkF m 6 #[rv a1, .val (.long q1), .second] [(.long q1), (.ref a1), (.ref b1), (.ref b1)])) rfl (by rw [hml]; rfl) [(.long q1)] [(.ref a1), (.ref b1), (.ref b1)] (lenOf own_pd_4 rfl) rfl rfl (hb hby d8_6)
  obtain ⟨w10, rfl, Nc14, Kc13, f11, f12⟩ := hQ9
  refine own_go st9 ?_
  clear st9 X1 e1
  replace N0 := Fr.app N0 Nc14
  clear Nc14
  replace A1 := A1.keep Kc13
  replace f4 := f4.keep Kc13 nin0
  replace f5 := f5.keep Kc13 nin0
  replace f6 := f6.keep Kc13 nin0
  replace f7 := f7.keep Kc13 nin0
  replace f8 := f8.keep Kc13 nin0
  replace O0 := own_oldKeep O0 Kc13 all0
  replace K0 := K0.trans Kc13 all0
  clear Kc13
  show own_Go p e below s _ _ _ (T9.setTop (mkF m 9 #[rv a1, .val (.long q1), .second] [(.ref w10), (.ref a1), (.ref b1), (.ref b1)]))
  refine own_go (fun _ k => XS.aconstNull X9.here hx rfl (hb hby d8_9) k) ?_
  show own_Go p e below s _ _ _ (T9.setTop (mkF m 10 #[rv a1, .val (.long q1), .second] [.null, (.ref w10), (.ref a1), (.ref b1), (.ref b1)]))
  refine own_go (fun _ k => XS.aconstNull X9.here hx rfl (hb hby d8_10) k) ?_
  show own_Go p e below s _ _ _ (T9.setTop (mkF m 11 #[rv a1, .val (.long q1), .second] [.null, .null, (.ref w10), (.ref a1), (.ref b1), (.ref b1)]))
  refine own_go (fun _ k => XS.aconstNull X9.here hx rfl (hb hby d8_11) k) ?_
  show own_Go p e below s _ _ _ (T9.setTop (mkF m 12 #[rv a1, .val (.long q1), .second] [.null, .null, .null, (.ref w10), (.ref a1), (.ref b1), (.ref b1)]))
  obtain ⟨v15, T15, L15, X15, hQ15, st15⟩ := own_callI (y := (⟨"com/example/countersign/countersign/server/Exchange", "<init>", "(Ljava/lang/String;Ljava/lang/Long;Ljava/lang/Long;Ljava/lang/Long;Ljava/lang/String;)V"⟩ : MethodName)) X9 hx hZ hown (ow54 hw) (ow27 hw) (ow25 hw) (ow28 hw) (rm_xinit l Z a0 hw oCS oCz oCa oBx [] b1 (.ref a1) (.ref w10) .null .null .null T9.heap O0 (rfl : ((.ref a1) : Value).isRef = true) (rfl : ((.ref w10) : Value).isRef = true) (rfl : (.null : Value).isRef = true) (rfl : (.null : Value).isRef = true) (rfl : (.null : Value).isRef = true) A1 f4 f5 f6 f7 f8 big2) 1 0 0 rfl (by show _ ≤ 2; omega) (by show _ ≤ 6; omega) (rfl : T9.heap = T9.heap) (g := (mkF m 12 #[rv a1, .val (.long q1), .second] [.null, .null, .null, (.ref w10), (.ref a1), (.ref b1), (.ref b1)])) rfl (by rw [hml]; rfl) b1 [(.ref a1), (.ref w10), .null, .null, .null] [(.ref b1)] (lenOf own_pd_3 rfl) rfl rfl (hb hby d8_12)
  obtain ⟨rfl, Nc23, Kc22, f16, f17, f18, f19, f20, f21⟩ := hQ15
  refine own_go st15 ?_
  clear st15 X9
  replace N0 := Fr.app N0 Nc23
  clear Nc23
  have ne24 : w10 ≠ b1 := (ne_exa f11 A1 (by decide))
  replace A1 := A1.keep Kc22
  clear f4
  clear f5
  clear f6
  clear f7
  clear f8
  replace f11 := f11.keep Kc22
  replace f12 := f12.keep Kc22 (ninS ne24 nin0)
  replace O0 := own_oldKeep O0 Kc22 (allS big2 all0)
  replace K0 := K0.trans Kc22 (allS (Or.inr sz3) all0)
  clear Kc22
  show own_Go p e below s _ _ _ (T15.setTop (mkF m 15 #[rv a1, .val (.long q1), .second] [(.ref b1)]))
  refine own_retA X15 hx hlk (rfl : T15.heap = T15.heap) hret rfl rfl (hb hby d8_15) (by show _ ≤ 2; omega) (by show _ ≤ 6; omega) ?_
  exact ⟨b1, rfl, N0, K0, sz3, f16, f21⟩
theorem d12_0 : decode prog_24_method_3_code 0 = .ok (.new 8, 3) := by decide +kernel
theorem d12_3 : decode prog_24_method_3_code 3 = .ok (.dup, 1) := by decide +kernel
theorem d12_4 : decode prog_24_method_3_code 4 = .ok (.aload_n 0, 1) := by decide +kernel
theorem d12_5 : decode prog_24_method_3_code 5 = .ok (.lload_n 1, 1) := by decide +kernel
theorem d12_6 : decode prog_24_method_3_code 6 = .ok (.invokestatic 26, 3) := by decide +kernel
theorem d12_9 : decode prog_24_method_3_code 9 = .ok (.lload_n 3, 1) := by decide +kernel
theorem d12_10 : decode prog_24_method_3_code 10 = .ok (.invokestatic 26, 3) := by decide +kernel
theorem d12_13 : decode prog_24_method_3_code 13 = .ok (.lload 5, 2) := by decide +kernel
theorem d12_15 : decode prog_24_method_3_code 15 = .ok (.invokestatic 26, 3) := by decide +kernel
theorem d12_18 : decode prog_24_method_3_code 18 = .ok (.aconst_null, 1) := by decide +kernel
theorem d12_19 : decode prog_24_method_3_code 19 = .ok (.invokespecial 32, 3) := by decide +kernel
theorem d12_22 : decode prog_24_method_3_code 22 = .ok (.areturn, 1) := by decide +kernel
def Q_expiring (Z : State) (zc : Int32) (wc : Addr) (clc : Cell) (a1 : Addr) (q1 : Int64) (q2 : Int64) (q3 : Int64) (h0 : Heap) (v : Option Value) (h : Heap) (L : List Loc) : Prop := (∃ b : Addr, v = some (.ref b) ∧ Fr Z.heap.size L ∧ Keep h0 h [] ∧ h0.size ≤ b ∧ Exa Z h b "com/example/countersign/countersign/server/Exchange" ∧ Fld Z h b "com/example/countersign/countersign/server/Exchange" "failure" "Ljava/lang/String;" .null)
theorem ef_expiring (m : MethodId) (x0 : Addr) (x1 : Int64) (x2 : Int64) (x3 : Int64) : entryFrame m #[(.ref x0), (.long x1), (.long x2), (.long x3)] 7 = mkF m 0 #[rv x0, .val (.long x1), .second, .val (.long x2), .second, .val (.long x3), .second] [] := by first | (simp [entryFrame, mkF, argsToLocals, Value.category]; done) | rfl
set_option maxRecDepth 65536 in
set_option maxHeartbeats 40000000 in
theorem rm_expiring (l : Launch) (Z : State) (a0 : Array Value) (hw : ∀ d ∈ tables_1, d.before a0 Z = true) {zc : Int32} {wc : Addr} {clc : Cell} (oCS : Sta Z Z.heap "java/lang/String" "COMPACT_STRINGS" "Z" (.int zc)) (oCz : ¬ zc = (0 : Int32)) (oCa : Sta Z Z.heap "java/lang/Long$LongCache" "cache" "[Ljava/lang/Long;" (.ref wc)) (oBx : Bxs Z wc clc "java/lang/Long" "J" (256 : Int32) own_bxv) (ws : List Jvm.Cond) (a1 : Addr) (q1 : Int64) (q2 : Int64) (q3 : Int64) (h0 : Heap) (O0 : Ext Z.heap h0) :
    own_MF l Z h0 (⟨"com/example/countersign/countersign/server/Exchange", "expiring", "(Ljava/lang/String;JJJ)Lcom/example/countersign/countersign/server/Exchange;"⟩ : MethodName) prog_24_method_3_code 7 (some (.object "com/example/countersign/countersign/server/Exchange")) ({ frames := 4, cells := 4, slots := 8, locals := 58 } : Room) #[(.ref a1), (.long q1), (.long q2), (.long q3)] (Q_expiring Z zc wc clc a1 q1 q2 q3 h0) ws := by
  refine own_met (Q := (Q_expiring Z zc wc clc a1 q1 q2 q3 h0)) _ _ (plainFor_of_name own_pn_4) ?_
  intro p e s m below meth c T X0 hx hby hml hret hlk hZ hown hnm e0
  replace hown : s.vm.findClass "com/example/countersign/countersign/server/Exchange" = some m.cls := hown
  replace hnm : meth.name = "expiring" := hnm
  have hml : c.maxLocals = 7 := hml
  have N0 := Fr.nil Z.heap.size
  have K0 := Keep.refl h0 []
  refine own_go (fun _ k => castTop (ef_expiring m a1 q1 q2 q3) k) ?_
  show own_Go p e below s _ _ _ (T.setTop (mkF m 0 #[rv a1, .val (.long q1), .second, .val (.long q2), .second, .val (.long q3), .second] []))
  obtain ⟨T1, h1, X1, e1, E1, A1, D1, -, st1⟩ := newO X0 hx hZ hown (ow53 hw) (ow24 hw) (ow25 hw) e0 (g := (mkF m 0 #[rv a1, .val (.long q1), .second, .val (.long q2), .second, .val (.long q3), .second] [])) rfl (hb hby d12_0) (by show _ ≤ 4; omega) (by show _ ≤ 8; omega)
  obtain ⟨b1, g1⟩ : ∃ z, z = h0.size := ⟨_, rfl⟩
  rw [← g1] at A1 D1 st1
  refine own_go st1 ?_
  clear st1 X0 e0
  have ge1 := Nat.le_of_eq g1.symm
  have big2 : Z.heap.size ≤ b1 := Nat.le_trans O0.1 ge1
  have sz3 : h0.size ≤ b1 := Nat.le_trans K0.1 ge1
  replace O0 := own_oldExt O0 E1
  replace K0 := K0.ext E1
  clear E1
  have f4 : Fld Z h1 b1 "com/example/countersign/countersign/server/Exchange" "artefact" "Ljava/lang/String;" .null := D1 (Or.inr (ow36 hw)) (ty := (.object "java/lang/String")) own_fd3
  have f5 : Fld Z h1 b1 "com/example/countersign/countersign/server/Exchange" "activatedAt" "Ljava/lang/Long;" .null := D1 (Or.inr (ow38 hw)) (ty := (.object "java/lang/Long")) own_fd4
  have f6 : Fld Z h1 b1 "com/example/countersign/countersign/server/Exchange" "expiresAt" "Ljava/lang/Long;" .null := D1 (Or.inr (ow40 hw)) (ty := (.object "java/lang/Long")) own_fd4
  have f7 : Fld Z h1 b1 "com/example/countersign/countersign/server/Exchange" "refreshAt" "Ljava/lang/Long;" .null := D1 (Or.inr (ow42 hw)) (ty := (.object "java/lang/Long")) own_fd4
  have f8 : Fld Z h1 b1 "com/example/countersign/countersign/server/Exchange" "failure" "Ljava/lang/String;" .null := D1 (Or.inr (ow44 hw)) (ty := (.object "java/lang/String")) own_fd3
  show own_Go p e below s _ _ _ (T1.setTop (mkF m 3 #[rv a1, .val (.long q1), .second, .val (.long q2), .second, .val (.long q3), .second] [(.ref b1)]))
  refine own_go (fun _ k => XS.dup X1.here hx rfl (hb hby d12_3) rfl rfl k) ?_
  show own_Go p e below s _ _ _ (T1.setTop (mkF m 4 #[rv a1, .val (.long q1), .second, .val (.long q2), .second, .val (.long q3), .second] [(.ref b1), (.ref b1)]))
  refine own_go (fun _ k => XS.aloadN X1.here hx rfl (hb hby d12_4) rfl rfl k) ?_
  show own_Go p e below s _ _ _ (T1.setTop (mkF m 5 #[rv a1, .val (.long q1), .second, .val (.long q2), .second, .val (.long q3), .second] [(.ref a1), (.ref b1), (.ref b1)]))
  refine own_go (fun _ k => XS.lloadN X1.here hx rfl (hb hby d12_5) rfl k) ?_
  show own_Go p e below s _ _ _ (T1.setTop (mkF m 6 #[rv a1, .val (.long q1), .second, .val (.long q2), .second, .val (.long q3), .second] [(.long q1), (.ref a1), (.ref b1), (.ref b1)]))
  obtain ⟨v9, T9, L9, X9, hQ9, st9⟩ := own_callS (y := (⟨"java/lang/Long", "valueOf", "(J)Ljava/lang/Long;"⟩ : MethodName)) X1 hx hZ hown (ow58 hw) (ow59 hw) (ow60 hw) (ow61 hw) (rm_valueOf l Z a0 hw oCS oCz oCa oBx [] q1 h1 O0) 3 1 1 (by show _ ≤ 4; omega) (by show _ ≤ 8; omega) e1 (g := (mkF m 6 #[rv a1, .val (.long q1), .second, .val (.long q2), .second, .val (.long q3), .second] [(.long q1), (.ref a1), (.ref b1), (.ref b1)])) rfl (by rw [hml]; rfl) [(.long q1)] [(.ref a1), (.ref b1), (.ref b1)] (lenOf own_pd_4 rfl) rfl rfl (hb hby d12_6)
  obtain ⟨w10, rfl, Nc14, Kc13, f11, f12⟩ := hQ9
  refine own_go st9 ?_
  clear st9 X1 e1
  replace N0 := Fr.app N0 Nc14
  clear Nc14
  replace A1 := A1.keep Kc13
  replace f4 := f4.keep Kc13 nin0
  replace f5 := f5.keep Kc13 nin0
  replace f6 := f6.keep Kc13 nin0
  replace f7 := f7.keep Kc13 nin0
  replace f8 := f8.keep Kc13 nin0
  replace O0 := own_oldKeep O0 Kc13 all0
  replace K0 := K0.trans Kc13 all0
  clear Kc13
  show own_Go p e below s _ _ _ (T9.setTop (mkF m 9 #[rv a1, .val (.long q1), .second, .val (.long q2), .second, .val (.long q3), .second] [(.ref w10), (.ref a1), (.ref b1), (.ref b1)]))
  refine own_go (fun _ k => XS.lloadN X9.here hx rfl (hb hby d12_9) rfl k) ?_
  show own_Go p e below s _ _ _ (T9.setTop (mkF m 10 #[rv a1, .val (.long q1), .second, .val (.long q2), .second, .val (.long q3), .second] [(.long q2), (.ref w10), (.ref a1), (.ref b1), (.ref b1)]))
  obtain ⟨v15, T15, L15, X15, hQ15, st15⟩ := own_callS (y := (⟨"java/lang/Long", "valueOf", "(J)Ljava/lang/Long;"⟩ : MethodName)) X9 hx hZ hown (ow58 hw) (ow59 hw) (ow60 hw) (ow61 hw) (rm_valueOf l Z a0 hw oCS oCz oCa oBx [] q2 T9.heap O0) 4 1 1 (by show _ ≤ 4; omega) (by show _ ≤ 8; omega) (rfl : T9.heap = T9.heap) (g := (mkF m 10 #[rv a1, .val (.long q1), .second, .val (.long q2), .second, .val (.long q3), .second] [(.long q2), (.ref w10), (.ref a1), (.ref b1), (.ref b1)])) rfl (by rw [hml]; rfl) [(.long q2)] [(.ref w10), (.ref a1), (.ref b1), (.ref b1)] (lenOf own_pd_4 rfl) rfl rfl (hb hby d12_10)
  obtain ⟨w16, rfl, Nc20, Kc19, f17, f18⟩ := hQ15
  refine own_go st15 ?_
  clear st15 X9
  replace N0 := Fr.app N0 Nc20
  clear Nc20
  replace A1 := A1.keep Kc19
  replace f4 := f4.keep Kc19 nin0
  replace f5 := f5.keep Kc19 nin0
  replace f6 := f6.keep Kc19 nin0
  replace f7 := f7.keep Kc19 nin0
  replace f8 := f8.keep Kc19 nin0
  replace f11 := f11.keep Kc19
  replace f12 := f12.keep Kc19 nin0
  replace O0 := own_oldKeep O0 Kc19 all0
  replace K0 := K0.trans Kc19 all0
  clear Kc19
  show own_Go p e below s _ _ _ (T15.setTop (mkF m 13 #[rv a1, .val (.long q1), .second, .val (.long q2), .second, .val (.long q3), .second] [(.ref w16), (.ref w10), (.ref a1), (.ref b1), (.ref b1)]))
  refine own_go (fun _ k => XS.lload X15.here hx rfl (hb hby d12_13) rfl k) ?_
  show own_Go p e below s _ _ _ (T15.setTop (mkF m 15 #[rv a1, .val (.long q1), .second, .val (.long q2), .second, .val (.long q3), .second] [(.long q3), (.ref w16), (.ref w10), (.ref a1), (.ref b1), (.ref b1)]))
  obtain ⟨v21, T21, L21, X21, hQ21, st21⟩ := own_callS (y := (⟨"java/lang/Long", "valueOf", "(J)Ljava/lang/Long;"⟩ : MethodName)) X15 hx hZ hown (ow58 hw) (ow59 hw) (ow60 hw) (ow61 hw) (rm_valueOf l Z a0 hw oCS oCz oCa oBx [] q3 T15.heap O0) 5 1 1 (by show _ ≤ 4; omega) (by show _ ≤ 8; omega) (rfl : T15.heap = T15.heap) (g := (mkF m 15 #[rv a1, .val (.long q1), .second, .val (.long q2), .second, .val (.long q3), .second] [(.long q3), (.ref w16), (.ref w10), (.ref a1), (.ref b1), (.ref b1)])) rfl (by rw [hml]; rfl) [(.long q3)] [(.ref w16), (.ref w10), (.ref a1), (.ref b1), (.ref b1)] (lenOf own_pd_4 rfl) rfl rfl (hb hby d12_15)
  obtain ⟨w22, rfl, Nc26, Kc25, f23, f24⟩ := hQ21
  refine own_go st21 ?_
  clear st21 X15
  replace N0 := Fr.app N0 Nc26
  clear Nc26
  replace A1 := A1.keep Kc25
  replace f4 := f4.keep Kc25 nin0
  replace f5 := f5.keep Kc25 nin0
  replace f6 := f6.keep Kc25 nin0
  replace f7 := f7.keep Kc25 nin0
  replace f8 := f8.keep Kc25 nin0
  replace f11 := f11.keep Kc25
  replace f12 := f12.keep Kc25 nin0
  replace f17 := f17.keep Kc25
  replace f18 := f18.keep Kc25 nin0
  replace O0 := own_oldKeep O0 Kc25 all0
  replace K0 := K0.trans Kc25 all0
  clear Kc25
  show own_Go p e below s _ _ _ (T21.setTop (mkF m 18 #[rv a1, .val (.long q1), .second, .val (.long q2), .second, .val (.long q3), .second] [(.ref w22), (.ref w16), (.ref w10), (.ref a1), (.ref b1), (.ref b1)]))
  refine own_go (fun _ k => XS.aconstNull X21.here hx rfl (hb hby d12_18) k) ?_
  show own_Go p e below s _ _ _ (T21.setTop (mkF m 19 #[rv a1, .val (.long q1), .second, .val (.long q2), .second, .val (.long q3), .second] [.null, (.ref w22), (.ref w16), (.ref w10), (.ref a1), (.ref b1), (.ref b1)]))
  obtain ⟨v27, T27, L27, X27, hQ27, st27⟩ := own_callI (y := (⟨"com/example/countersign/countersign/server/Exchange", "<init>", "(Ljava/lang/String;Ljava/lang/Long;Ljava/lang/Long;Ljava/lang/Long;Ljava/lang/String;)V"⟩ : MethodName)) X21 hx hZ hown (ow54 hw) (ow27 hw) (ow25 hw) (ow28 hw) (rm_xinit l Z a0 hw oCS oCz oCa oBx [] b1 (.ref a1) (.ref w10) (.ref w16) (.ref w22) .null T21.heap O0 (rfl : ((.ref a1) : Value).isRef = true) (rfl : ((.ref w10) : Value).isRef = true) (rfl : ((.ref w16) : Value).isRef = true) (rfl : ((.ref w22) : Value).isRef = true) (rfl : (.null : Value).isRef = true) A1 f4 f5 f6 f7 f8 big2) 1 0 0 rfl (by show _ ≤ 4; omega) (by show _ ≤ 8; omega) (rfl : T21.heap = T21.heap) (g := (mkF m 19 #[rv a1, .val (.long q1), .second, .val (.long q2), .second, .val (.long q3), .second] [.null, (.ref w22), (.ref w16), (.ref w10), (.ref a1), (.ref b1), (.ref b1)])) rfl (by rw [hml]; rfl) b1 [(.ref a1), (.ref w10), (.ref w16), (.ref w22), .null] [(.ref b1)] (lenOf own_pd_3 rfl) rfl rfl (hb hby d12_19)
  obtain ⟨rfl, Nc35, Kc34, f28, f29, f30, f31, f32, f33⟩ := hQ27
  refine own_go st27 ?_
  clear st27 X21
  replace N0 := Fr.app N0 Nc35
  clear Nc35
  have ne36 : w10 ≠ b1 := (ne_exa f11 A1 (by decide))
  have ne37 : w16 ≠ b1 := (ne_exa f17 A1 (by decide))
  have ne38 : w22 ≠ b1 := (ne_exa f23 A1 (by decide))
  replace A1 := A1.keep Kc34
  clear f4
  clear f5
  clear f6
  clear f7
  clear f8
  replace f11 := f11.keep Kc34
  replace f12 := f12.keep Kc34 (ninS ne36 nin0)
  replace f17 := f17.keep Kc34
  replace f18 := f18.keep Kc34 (ninS ne37 nin0)
  replace f23 := f23.keep Kc34
  replace f24 := f24.keep Kc34 (ninS ne38 nin0)
  replace O0 := own_oldKeep O0 Kc34 (allS big2 all0)
  replace K0 := K0.trans Kc34 (allS (Or.inr sz3) all0)
  clear Kc34
  show own_Go p e below s _ _ _ (T27.setTop (mkF m 22 #[rv a1, .val (.long q1), .second, .val (.long q2), .second, .val (.long q3), .second] [(.ref b1)]))
  refine own_retA X27 hx hlk (rfl : T27.heap = T27.heap) hret rfl rfl (hb hby d12_22) (by show _ ≤ 4; omega) (by show _ ≤ 8; omega) ?_
  exact ⟨b1, rfl, N0, K0, sz3, f28, f33⟩
theorem d6_0 : decode prog_24_method_5_code 0 = .ok (.aload_n 0, 1) := by decide +kernel
theorem d6_1 : decode prog_24_method_5_code 1 = .ok (.getfield 23, 3) := by decide +kernel
theorem d6_4 : decode prog_24_method_5_code 4 = .ok (.ifnonnull 7, 3) := by decide +kernel
theorem d6_7 : decode prog_24_method_5_code 7 = .ok (.iconst 1, 1) := by decide +kernel
theorem d6_8 : decode prog_24_method_5_code 8 = .ok (.goto 4, 3) := by decide +kernel
theorem d6_12 : decode prog_24_method_5_code 12 = .ok (.ireturn, 1) := by decide +kernel
def Q_succ0 (Z : State) (zc : Int32) (wc : Addr) (clc : Cell) (a1 : Addr) (h0 : Heap) (v : Option Value) (h : Heap) (L : List Loc) : Prop := (v = some (.int (1 : Int32)) ∧ Fr Z.heap.size L ∧ h = h0)
theorem ef_succ0 (m : MethodId) (x0 : Addr) : entryFrame m #[(.ref x0)] 1 = mkF m 0 #[rv x0] [] := by first | (simp [entryFrame, mkF, argsToLocals, Value.category]; done) | rfl
set_option maxRecDepth 65536 in
set_option maxHeartbeats 40000000 in
theorem rm_succ0 (l : Launch) (Z : State) (a0 : Array Value) (hw : ∀ d ∈ tables_1, d.before a0 Z = true) {zc : Int32} {wc : Addr} {clc : Cell} (oCS : Sta Z Z.heap "java/lang/String" "COMPACT_STRINGS" "Z" (.int zc)) (oCz : ¬ zc = (0 : Int32)) (oCa : Sta Z Z.heap "java/lang/Long$LongCache" "cache" "[Ljava/lang/Long;" (.ref wc)) (oBx : Bxs Z wc clc "java/lang/Long" "J" (256 : Int32) own_bxv) (ws : List Jvm.Cond) (a1 : Addr) (h0 : Heap) (O0 : Ext Z.heap h0) (fp0 : Fld Z h0 a1 "com/example/countersign/countersign/server/Exchange" "failure" "Ljava/lang/String;" .null) :
    own_MF l Z h0 (⟨"com/example/countersign/countersign/server/Exchange", "succeeded", "()Z"⟩ : MethodName) prog_24_method_5_code 1 (some .boolean) ({ frames := 0, cells := 0, slots := 0, locals := 0 } : Room) #[(.ref a1)] (Q_succ0 Z zc wc clc a1 h0) ws := by
  refine own_met (Q := (Q_succ0 Z zc wc clc a1 h0)) _ _ (plainFor_of_name own_pn_4) ?_
  intro p e s m below meth c T X0 hx hby hml hret hlk hZ hown hnm e0
  replace hown : s.vm.findClass "com/example/countersign/countersign/server/Exchange" = some m.cls := hown
  replace hnm : meth.name = "succeeded" := hnm
  have hml : c.maxLocals = 1 := hml
  have N0 := Fr.nil Z.heap.size
  have K0 := Keep.refl h0 []
  refine own_go (fun _ k => castTop (ef_succ0 m a1) k) ?_
  show own_Go p e below s _ _ _ (T.setTop (mkF m 0 #[rv a1] []))
  refine own_go (fun _ k => XS.aloadN X0.here hx rfl (hb hby d6_0) rfl rfl k) ?_
  show own_Go p e below s _ _ _ (T.setTop (mkF m 1 #[rv a1] [(.ref a1)]))
  obtain ⟨T1, X1, e1, st1⟩ := getF X0 hx hZ hown (host := "") (Or.inl (ow43 hw)) Via.refl e0 (fp0.keep K0 nin0) (g := (mkF m 1 #[rv a1] [(.ref a1)])) rfl rfl (hb hby d6_1)
  refine own_go st1 ?_
  clear st1 X0 e0
  show own_Go p e below s _ _ _ (T1.setTop (mkF m 4 #[rv a1] [.null]))
  refine own_go (fun _ k => XS.ifnonnullNo X1.here hx rfl (hb hby d6_4) rfl k) ?_
  show own_Go p e below s _ _ _ (T1.setTop (mkF m 7 #[rv a1] []))
  refine own_go (fun _ k => XS.iconst X1.here hx rfl (hb hby d6_7) k) ?_
  show own_Go p e below s _ _ _ (T1.setTop (mkF m 8 #[rv a1] [(.int (1 : Int32))]))
  refine own_go (fun _ k => XS.goto X1.here hx rfl (pc0 := 8) (pc' := 12) rfl (hb hby d6_8) (by decide) (by decide) k) ?_
  show own_Go p e below s _ _ _ (T1.setTop (mkF m 12 #[rv a1] [(.int (1 : Int32))]))
  refine own_retN X1 hx hlk e1 (t := .boolean) hret (by simp) (hb hby d6_12) (by show _ ≤ 0; omega) (by show _ ≤ 0; omega) ?_
  exact ⟨rfl, N0, rfl⟩
theorem d6_11 : decode prog_24_method_5_code 11 = .ok (.iconst 0, 1) := by decide +kernel
def Q_succ1 (Z : State) (zc : Int32) (wc : Addr) (clc : Cell) (a1 : Addr) (w : Addr) (h0 : Heap) (v : Option Value) (h : Heap) (L : List Loc) : Prop := (v = some (.int (0 : Int32)) ∧ Fr Z.heap.size L ∧ h = h0)
theorem ef_succ1 (m : MethodId) (x0 : Addr) : entryFrame m #[(.ref x0)] 1 = mkF m 0 #[rv x0] [] := by first | (simp [entryFrame, mkF, argsToLocals, Value.category]; done) | rfl
set_option maxRecDepth 65536 in
set_option maxHeartbeats 40000000 in
theorem rm_succ1 (l : Launch) (Z : State) (a0 : Array Value) (hw : ∀ d ∈ tables_1, d.before a0 Z = true) {zc : Int32} {wc : Addr} {clc : Cell} (oCS : Sta Z Z.heap "java/lang/String" "COMPACT_STRINGS" "Z" (.int zc)) (oCz : ¬ zc = (0 : Int32)) (oCa : Sta Z Z.heap "java/lang/Long$LongCache" "cache" "[Ljava/lang/Long;" (.ref wc)) (oBx : Bxs Z wc clc "java/lang/Long" "J" (256 : Int32) own_bxv) (ws : List Jvm.Cond) (a1 : Addr) (w : Addr) (h0 : Heap) (O0 : Ext Z.heap h0) (fp0 : Fld Z h0 a1 "com/example/countersign/countersign/server/Exchange" "failure" "Ljava/lang/String;" (.ref w)) :
    own_MF l Z h0 (⟨"com/example/countersign/countersign/server/Exchange", "succeeded", "()Z"⟩ : MethodName) prog_24_method_5_code 1 (some .boolean) ({ frames := 0, cells := 0, slots := 0, locals := 0 } : Room) #[(.ref a1)] (Q_succ1 Z zc wc clc a1 w h0) ws := by
  refine own_met (Q := (Q_succ1 Z zc wc clc a1 w h0)) _ _ (plainFor_of_name own_pn_4) ?_
  intro p e s m below meth c T X0 hx hby hml hret hlk hZ hown hnm e0
  replace hown : s.vm.findClass "com/example/countersign/countersign/server/Exchange" = some m.cls := hown
  replace hnm : meth.name = "succeeded" := hnm
  have hml : c.maxLocals = 1 := hml
  have N0 := Fr.nil Z.heap.size
  have K0 := Keep.refl h0 []
  refine own_go (fun _ k => castTop (ef_succ1 m a1) k) ?_
  show own_Go p e below s _ _ _ (T.setTop (mkF m 0 #[rv a1] []))
  refine own_go (fun _ k => XS.aloadN X0.here hx rfl (hb hby d6_0) rfl rfl k) ?_
  show own_Go p e below s _ _ _ (T.setTop (mkF m 1 #[rv a1] [(.ref a1)]))
  obtain ⟨T1, X1, e1, st1⟩ := getF X0 hx hZ hown (host := "") (Or.inl (ow43 hw)) Via.refl e0 (fp0.keep K0 nin0) (g := (mkF m 1 #[rv a1] [(.ref a1)])) rfl rfl (hb hby d6_1)
  refine own_go st1 ?_
  clear st1 X0 e0
  show own_Go p e below s _ _ _ (T1.setTop (mkF m 4 #[rv a1] [(.ref w)]))
  refine own_go (fun _ k => XS.ifnonnullYes X1.here hx rfl (pc0 := 4) (pc' := 11) rfl (hb hby d6_4) rfl (by decide) (by decide) k) ?_
  show own_Go p e below s _ _ _ (T1.setTop (mkF m 11 #[rv a1] []))
  refine own_go (fun _ k => XS.iconst X1.here hx rfl (hb hby d6_11) k) ?_
  show own_Go p e below s _ _ _ (T1.setTop (mkF m 12 #[rv a1] [(.int (0 : Int32))]))
  refine own_retN X1 hx hlk e1 (t := .boolean) hret (by simp) (hb hby d6_12) (by show _ ≤ 0; omega) (by show _ ≤ 0; omega) ?_
  exact ⟨rfl, N0, rfl⟩
def Q_law (Z : State) (zc : Int32) (wc : Addr) (clc : Cell) (p1 : Int32) (p2 : Int32) (p3 : Int32) (q4 : Int64) (q5 : Int64) (q6 : Int64) (h0 : Heap) (v : Option Value) (h : Heap) (L : List Loc) : Prop := (v = some (.int (1 : Int32)) ∧ Fr Z.heap.size L ∧ Keep h0 h [])
set_option maxRecDepth 65536 in
set_option maxHeartbeats 40000000 in
theorem sg_s225 {l : Launch} {Z : State} {a0 : Array Value} (hw : ∀ d ∈ tables_1, d.before a0 Z = true) {zc : Int32} {wc : Addr} {clc : Cell} (oCS : Sta Z Z.heap "java/lang/String" "COMPACT_STRINGS" "Z" (.int zc)) (oCz : ¬ zc = (0 : Int32)) (oCa : Sta Z Z.heap "java/lang/Long$LongCache" "cache" "[Ljava/lang/Long;" (.ref wc)) (oBx : Bxs Z wc clc "java/lang/Long" "J" (256 : Int32) own_bxv) {p : Program} {e : Env} {s : State} {vm0 : Vm} {m : MethodId} {args : Array Value} {below : List Frame} {meth : Method} {c : Code} {T : State} {locs : List Loc} {cells slots : Nat} (p1 : Int32) (p2 : Int32) (p3 : Int32) (q4 : Int64) (q5 : Int64) (q6 : Int64) (ua : Int32) (ub : Int32) (uc : Int32) (ud : Int32) (ue : Int32) (ul : Int32) (ya : Slot) (yb : Slot) (yc : Slot) (sb : Addr) (gva : Value) (gvb : Value) (gvc : Value) (gvd : Value) (h0 hs1 : Heap)
    (X0 : Stand p l e room_1 (s.setVm vm0) m args below meth c T locs cells slots) (hS : s.Since vm0 hs1.size) (hL : own_L Z a0) (hJ : own_J Z vm0 hs1) (hx : p.tables.exec = Jvm.exec) (hby : c.code = code) (hml : c.maxLocals = 29) (hret : meth.sig.returnType = some .boolean) (hlk : meth.locks = false) (hZ : Z.Warmed39 (s.setVm vm0).vm) (hown : (s.setVm vm0).vm.findClass "com/example/countersign/countersign/server/ExchangeSucceededPinLaw" = some m.cls) (hnm : meth.name = "law") (e0 : T.heap = hs1) (N0 : Fr Z.heap.size locs) (O0 : Ext Z.heap hs1) (K0 : Keep h0 hs1 []) (r_gva : gva.isRef = true) (r_gvb : gvb.isRef = true) (r_gvc : gvc.isRef = true) (r_gvd : gvd.isRef = true) (fp0 : Exa Z hs1 sb "java/lang/String") (hcells : cells ≤ 26) (hslots : slots ≤ 130) :
    own_GoW p e below s Z (Q_law Z zc wc clc p1 p2 p3 q4 q5 q6 h0) room_1.cells room_1.slots (T.setTop (mkF m 225 #[iv p1, iv p2, iv p3, .val (.long q4), .second, .val (.long q5), .second, .val (.long q6), .second, iv ua, iv ub, iv uc, iv ud, iv ue, iv ul, ya, yb, yc, rv sb, .val gva, .val gvb, .val gvc, .val gvd, .unset, .unset, .unset, .unset, .unset, .unset] [])) := by
  have K1 := Keep.refl hs1 []
  show own_GoW p e below s _ _ _ _ (T.setTop (mkF m 225 #[iv p1, iv p2, iv p3, .val (.long q4), .second, .val (.long q5), .second, .val (.long q6), .second, iv ua, iv ub, iv uc, iv ud, iv ue, iv ul, ya, yb, yc, rv sb, .val gva, .val gvb, .val gvc, .val gvd, .unset, .unset, .unset, .unset, .unset, .unset] []))
  refine own_goW (fun _ k => XS.iload X0.here hx rfl (hb hby at_225) rfl k) ?_
  show own_GoW p e below s _ _ _ _ (T.setTop (mkF m 227 #[iv p1, iv p2, iv p3, .val (.long q4), .second, .val (.long q5), .second, .val (.long q6), .second, iv ua, iv ub, iv uc, iv ud, iv ue, iv ul, ya, yb, yc, rv sb, .val gva, .val gvb, .val gvc, .val gvd, .unset, .unset, .unset, .unset, .unset, .unset] [(.int ue)]))
  by_cases hc1 : ue = (0 : Int32)
  · refine own_goW (fun _ k => XS.ifYes X0.here hx rfl (pc0 := 227) (pc' := 235) rfl (hb hby at_227) rfl ((if0 _ _).trans (teq hc1).1) (by decide) (by decide) k) ?_
    show own_GoW p e below s _ _ _ _ (T.setTop (mkF m 235 #[iv p1, iv p2, iv p3, .val (.long q4), .second, .val (.long q5), .second, .val (.long q6), .second, iv ua, iv ub, iv uc, iv ud, iv ue, iv ul, ya, yb, yc, rv sb, .val gva, .val gvb, .val gvc, .val gvd, .unset, .unset, .unset, .unset, .unset, .unset] []))
    refine own_goW (fun _ k => XS.aconstNull X0.here hx rfl (hb hby at_235) k) ?_
    show own_GoW p e below s _ _ _ _ (T.setTop (mkF m 236 #[iv p1, iv p2, iv p3, .val (.long q4), .second, .val (.long q5), .second, .val (.long q6), .second, iv ua, iv ub, iv uc, iv ud, iv ue, iv ul, ya, yb, yc, rv sb, .val gva, .val gvb, .val gvc, .val gvd, .unset, .unset, .unset, .unset, .unset, .unset] [.null]))
    refine own_goW (fun _ k => XS.astore X0.here hx rfl (hb hby at_236) rfl rfl (l' := #[iv p1, iv p2, iv p3, .val (.long q4), .second, .val (.long q5), .second, .val (.long q6), .second, iv ua, iv ub, iv uc, iv ud, iv ue, iv ul, ya, yb, yc, rv sb, .val gva, .val gvb, .val gvc, .val gvd, .val .null, .unset, .unset, .unset, .unset, .unset]) rfl k) ?_
    show own_GoW p e below s _ _ _ _ (T.setTop (mkF m 238 #[iv p1, iv p2, iv p3, .val (.long q4), .second, .val (.long q5), .second, .val (.long q6), .second, iv ua, iv ub, iv uc, iv ud, iv ue, iv ul, ya, yb, yc, rv sb, .val gva, .val gvb, .val gvc, .val gvd, .val .null, .unset, .unset, .unset, .unset, .unset] []))
    obtain ⟨T2, h2, X2, e2, E2, A2, D2, -, st2⟩ := newO X0 hx hZ hown (ow23 hw) (ow24 hw) (ow25 hw) e0 (g := (mkF m 238 #[iv p1, iv p2, iv p3, .val (.long q4), .second, .val (.long q5), .second, .val (.long q6), .second, iv ua, iv ub, iv uc, iv ud, iv ue, iv ul, ya, yb, yc, rv sb, .val gva, .val gvb, .val gvc, .val gvd, .val .null, .unset, .unset, .unset, .unset, .unset] [])) rfl (hb hby at_238) (by show _ ≤ 48; omega) (by show _ ≤ 1216; omega)
    obtain ⟨b2, g2⟩ : ∃ z, z = hs1.size := ⟨_, rfl⟩
    rw [← g2] at A2 D2 st2
    refine own_goW st2 ?_
    clear st2 X0 e0
    have ge2 := Nat.le_of_eq g2.symm
    have big3 : Z.heap.size ≤ b2 := Nat.le_trans O0.1 ge2
    have sz4 : h0.size ≤ b2 := Nat.le_trans K0.1 ge2
    have sz5 : hs1.size ≤ b2 := Nat.le_trans K1.1 ge2
    replace O0 := own_oldExt O0 E2
    replace K0 := K0.ext E2
    replace K1 := K1.ext E2
    replace hS := own_since hS E2.1
    replace hJ := own_Jext hJ E2
    clear E2
    have f6 : Fld Z h2 b2 "com/example/countersign/countersign/server/Exchange" "artefact" "Ljava/lang/String;" .null := D2 (Or.inr (ow36 hw)) (ty := (.object "java/lang/String")) own_fd3
    have f7 : Fld Z h2 b2 "com/example/countersign/countersign/server/Exchange" "activatedAt" "Ljava/lang/Long;" .null := D2 (Or.inr (ow38 hw)) (ty := (.object "java/lang/Long")) own_fd4
    have f8 : Fld Z h2 b2 "com/example/countersign/countersign/server/Exchange" "expiresAt" "Ljava/lang/Long;" .null := D2 (Or.inr (ow40 hw)) (ty := (.object "java/lang/Long")) own_fd4
    have f9 : Fld Z h2 b2 "com/example/countersign/countersign/server/Exchange" "refreshAt" "Ljava/lang/Long;" .null := D2 (Or.inr (ow42 hw)) (ty := (.object "java/lang/Long")) own_fd4
    have f10 : Fld Z h2 b2 "com/example/countersign/countersign/server/Exchange" "failure" "Ljava/lang/String;" .null := D2 (Or.inr (ow44 hw)) (ty := (.object "java/lang/String")) own_fd3
    show own_GoW p e below s _ _ _ _ (T2.setTop (mkF m 241 #[iv p1, iv p2, iv p3, .val (.long q4), .second, .val (.long q5), .second, .val (.long q6), .second, iv ua, iv ub, iv uc, iv ud, iv ue, iv ul, ya, yb, yc, rv sb, .val gva, .val gvb, .val gvc, .val gvd, .val .null, .unset, .unset, .unset, .unset, .unset] [(.ref b2)]))
    refine own_goW (fun _ k => XS.dup X2.here hx rfl (hb hby at_241) rfl rfl k) ?_
    show own_GoW p e below s _ _ _ _ (T2.setTop (mkF m 242 #[iv p1, iv p2, iv p3, .val (.long q4), .second, .val (.long q5), .second, .val (.long q6), .second, iv ua, iv ub, iv uc, iv ud, iv ue, iv ul, ya, yb, yc, rv sb, .val gva, .val gvb, .val gvc, .val gvd, .val .null, .unset, .unset, .unset, .unset, .unset] [(.ref b2), (.ref b2)]))
    refine own_goW (fun _ k => XS.aload X2.here hx rfl (hb hby at_242) rfl r_gva k) ?_
    show own_GoW p e below s _ _ _ _ (T2.setTop (mkF m 244 #[iv p1, iv p2, iv p3, .val (.long q4), .second, .val (.long q5), .second, .val (.long q6), .second, iv ua, iv ub, iv uc, iv ud, iv ue, iv ul, ya, yb, yc, rv sb, .val gva, .val gvb, .val gvc, .val gvd, .val .null, .unset, .unset, .unset, .unset, .unset] [gva, (.ref b2), (.ref b2)]))
    refine own_goW (fun _ k => XS.aload X2.here hx rfl (hb hby at_244) rfl r_gvb k) ?_
    show own_GoW p e below s _ _ _ _ (T2.setTop (mkF m 246 #[iv p1, iv p2, iv p3, .val (.long q4), .second, .val (.long q5), .second, .val (.long q6), .second, iv ua, iv ub, iv uc, iv ud, iv ue, iv ul, ya, yb, yc, rv sb, .val gva, .val gvb, .val gvc, .val gvd, .val .null, .unset, .unset, .unset, .unset, .unset] [gvb, gva, (.ref b2), (.ref b2)]))
    refine own_goW (fun _ k => XS.aload X2.here hx rfl (hb hby at_246) rfl r_gvc k) ?_
    show own_GoW p e below s _ _ _ _ (T2.setTop (mkF m 248 #[iv p1, iv p2, iv p3, .val (.long q4), .second, .val (.long q5), .second, .val (.long q6), .second, iv ua, iv ub, iv uc, iv ud, iv ue, iv ul, ya, yb, yc, rv sb, .val gva, .val gvb, .val gvc, .val gvd, .val .null, .unset, .unset, .unset, .unset, .unset] [gvc, gvb, gva, (.ref b2), (.ref b2)]))
    refine own_goW (fun _ k => XS.aload X2.here hx rfl (hb hby at_248) rfl r_gvd k) ?_
    show own_GoW p e below s _ _ _ _ (T2.setTop (mkF m 250 #[iv p1, iv p2, iv p3, .val (.long q4), .second, .val (.long q5), .second, .val (.long q6), .second, iv ua, iv ub, iv uc, iv ud, iv ue, iv ul, ya, yb, yc, rv sb, .val gva, .val gvb, .val gvc, .val gvd, .val .null, .unset, .unset, .unset, .unset, .unset] [gvd, gvc, gvb, gva, (.ref b2), (.ref b2)]))
    refine own_goW (fun _ k => XS.aload X2.here hx rfl (hb hby at_250) rfl rfl k) ?_
    show own_GoW p e below s _ _ _ _ (T2.setTop (mkF m 252 #[iv p1, iv p2, iv p3, .val (.long q4), .second, .val (.long q5), .second, .val (.long q6), .second, iv ua, iv ub, iv uc, iv ud, iv ue, iv ul, ya, yb, yc, rv sb, .val gva, .val gvb, .val gvc, .val gvd, .val .null, .unset, .unset, .unset, .unset, .unset] [.null, gvd, gvc, gvb, gva, (.ref b2), (.ref b2)]))
    obtain ⟨v11, T11, L11, X11, hQ11, st11⟩ := own_callI (y := (⟨"com/example/countersign/countersign/server/Exchange", "<init>", "(Ljava/lang/String;Ljava/lang/Long;Ljava/lang/Long;Ljava/lang/Long;Ljava/lang/String;)V"⟩ : MethodName)) X2 hx hZ hown (ow26 hw) (ow27 hw) (ow25 hw) (ow28 hw) (rm_xinit l Z a0 hw oCS oCz oCa oBx [] b2 gva gvb gvc gvd .null h2 O0 r_gva r_gvb r_gvc r_gvd (rfl : (.null : Value).isRef = true) A2 f6 f7 f8 f9 f10 big3) 1 0 0 rfl (by show _ ≤ 48; omega) (by show _ ≤ 1216; omega) e2 (g := (mkF m 252 #[iv p1, iv p2, iv p3, .val (.long q4), .second, .val (.long q5), .second, .val (.long q6), .second, iv ua, iv ub, iv uc, iv ud, iv ue, iv ul, ya, yb, yc, rv sb, .val gva, .val gvb, .val gvc, .val gvd, .val .null, .unset, .unset, .unset, .unset, .unset] [.null, gvd, gvc, gvb, gva, (.ref b2), (.ref b2)])) rfl (by rw [hml]; rfl) b2 [gva, gvb, gvc, gvd, .null] [(.ref b2)] (lenOf own_pd_3 rfl) rfl rfl (hb hby at_252)
    obtain ⟨rfl, Nc19, Kc18, f12, f13, f14, f15, f16, f17⟩ := hQ11
    refine own_goW st11 ?_
    clear st11 X2 e2
    replace N0 := Fr.app N0 Nc19
    clear Nc19
    replace hS := own_since hS Kc18.1
    replace hJ := own_Jkeep hZ hJ Kc18 (allS (own_farE A2 (by decide) (ow24 hw)) all0)
    replace A2 := A2.keep Kc18
    clear f6
    clear f7
    clear f8
    clear f9
    clear f10
    replace O0 := own_oldKeep O0 Kc18 (allS big3 all0)
    replace K0 := K0.trans Kc18 (allS (Or.inr sz4) all0)
    replace K1 := K1.trans Kc18 (allS (Or.inr sz5) all0)
    clear Kc18
    show own_GoW p e below s _ _ _ _ (T11.setTop (mkF m 255 #[iv p1, iv p2, iv p3, .val (.long q4), .second, .val (.long q5), .second, .val (.long q6), .second, iv ua, iv ub, iv uc, iv ud, iv ue, iv ul, ya, yb, yc, rv sb, .val gva, .val gvb, .val gvc, .val gvd, .val .null, .unset, .unset, .unset, .unset, .unset] [(.ref b2)]))
    refine own_goW (fun _ k => XS.astore X11.here hx rfl (hb hby at_255) rfl rfl (l' := #[iv p1, iv p2, iv p3, .val (.long q4), .second, .val (.long q5), .second, .val (.long q6), .second, iv ua, iv ub, iv uc, iv ud, iv ue, iv ul, ya, yb, yc, rv sb, .val gva, .val gvb, .val gvc, .val gvd, .val .null, rv b2, .unset, .unset, .unset, .unset]) rfl k) ?_
    show own_GoW p e below s _ _ _ _ (T11.setTop (mkF m 257 #[iv p1, iv p2, iv p3, .val (.long q4), .second, .val (.long q5), .second, .val (.long q6), .second, iv ua, iv ub, iv uc, iv ud, iv ue, iv ul, ya, yb, yc, rv sb, .val gva, .val gvb, .val gvc, .val gvd, .val .null, rv b2, .unset, .unset, .unset, .unset] []))
    refine own_goW (fun _ k => XS.aload X11.here hx rfl (hb hby at_257) rfl rfl k) ?_
    show own_GoW p e below s _ _ _ _ (T11.setTop (mkF m 259 #[iv p1, iv p2, iv p3, .val (.long q4), .second, .val (.long q5), .second, .val (.long q6), .second, iv ua, iv ub, iv uc, iv ud, iv ue, iv ul, ya, yb, yc, rv sb, .val gva, .val gvb, .val gvc, .val gvd, .val .null, rv b2, .unset, .unset, .unset, .unset] [(.ref b2)]))
    obtain ⟨v20, T20, L20, X20, hQ20, st20⟩ := own_callV (y := (⟨"com/example/countersign/countersign/server/Exchange", "succeeded", "()Z"⟩ : MethodName)) (z := (⟨"com/example/countersign/countersign/server/Exchange", "succeeded", "()Z"⟩ : MethodName)) X11 hx hZ hown (ow45 hw) (ow46 hw) (notFace_of_selects (args := #[]) (mvT hZ (ow48 hw))) (ow48 hw) (ow47 hw) (ow25 hw) (ow49 hw) (rm_succ0 l Z a0 hw oCS oCz oCa oBx [] b2 T11.heap O0 f17) 0 0 0 (by show _ ≤ 48; omega) (by show _ ≤ 1216; omega) (rfl : T11.heap = T11.heap) f12 (g := (mkF m 259 #[iv p1, iv p2, iv p3, .val (.long q4), .second, .val (.long q5), .second, .val (.long q6), .second, iv ua, iv ub, iv uc, iv ud, iv ue, iv ul, ya, yb, yc, rv sb, .val gva, .val gvb, .val gvc, .val gvd, .val .null, rv b2, .unset, .unset, .unset, .unset] [(.ref b2)])) rfl (by rw [hml]; rfl) [] [] (lenOf own_pd_5 rfl) rfl rfl (hb hby at_259)
    obtain ⟨rfl, Nc22, Kc21⟩ := hQ20
    refine own_goW st20 ?_
    clear st20 X11
    replace N0 := Fr.app N0 Nc22
    clear Nc22
    show own_GoW p e below s _ _ _ _ (T20.setTop (mkF m 262 #[iv p1, iv p2, iv p3, .val (.long q4), .second, .val (.long q5), .second, .val (.long q6), .second, iv ua, iv ub, iv uc, iv ud, iv ue, iv ul, ya, yb, yc, rv sb, .val gva, .val gvb, .val gvc, .val gvd, .val .null, rv b2, .unset, .unset, .unset, .unset] [(.int (1 : Int32))]))
    refine own_goW (fun _ k => XS.iload X20.here hx rfl (hb hby at_262) rfl k) ?_
    show own_GoW p e below s _ _ _ _ (T20.setTop (mkF m 264 #[iv p1, iv p2, iv p3, .val (.long q4), .second, .val (.long q5), .second, .val (.long q6), .second, iv ua, iv ub, iv uc, iv ud, iv ue, iv ul, ya, yb, yc, rv sb, .val gva, .val gvb, .val gvc, .val gvd, .val .null, rv b2, .unset, .unset, .unset, .unset] [(.int ue), (.int (1 : Int32))]))
    refine own_goW (fun _ k => XS.ifNo X20.here hx rfl (hb hby at_264) rfl ((if0 _ _).trans (teq hc1).2) k) ?_
    show own_GoW p e below s _ _ _ _ (T20.setTop (mkF m 267 #[iv p1, iv p2, iv p3, .val (.long q4), .second, .val (.long q5), .second, .val (.long q6), .second, iv ua, iv ub, iv uc, iv ud, iv ue, iv ul, ya, yb, yc, rv sb, .val gva, .val gvb, .val gvc, .val gvd, .val .null, rv b2, .unset, .unset, .unset, .unset] [(.int (1 : Int32))]))
    refine own_goW (fun _ k => XS.iconst X20.here hx rfl (hb hby at_267) k) ?_
    show own_GoW p e below s _ _ _ _ (T20.setTop (mkF m 268 #[iv p1, iv p2, iv p3, .val (.long q4), .second, .val (.long q5), .second, .val (.long q6), .second, iv ua, iv ub, iv uc, iv ud, iv ue, iv ul, ya, yb, yc, rv sb, .val gva, .val gvb, .val gvc, .val gvd, .val .null, rv b2, .unset, .unset, .unset, .unset] [(.int (1 : Int32)), (.int (1 : Int32))]))
    refine own_goW (fun _ k => XS.goto X20.here hx rfl (pc0 := 268) (pc' := 272) rfl (hb hby at_268) (by decide) (by decide) k) ?_
    show own_GoW p e below s _ _ _ _ (T20.setTop (mkF m 272 #[iv p1, iv p2, iv p3, .val (.long q4), .second, .val (.long q5), .second, .val (.long q6), .second, iv ua, iv ub, iv uc, iv ud, iv ue, iv ul, ya, yb, yc, rv sb, .val gva, .val gvb, .val gvc, .val gvd, .val .null, rv b2, .unset, .unset, .unset, .unset] [(.int (1 : Int32)), (.int (1 : Int32))]))
    refine own_goW (fun _ k => XS.icmpNo X20.here hx rfl (hb hby at_272) rfl (teq (by decide : (1 : Int32) = (1 : Int32))).2 k) ?_
    show own_GoW p e below s _ _ _ _ (T20.setTop (mkF m 275 #[iv p1, iv p2, iv p3, .val (.long q4), .second, .val (.long q5), .second, .val (.long q6), .second, iv ua, iv ub, iv uc, iv ud, iv ue, iv ul, ya, yb, yc, rv sb, .val gva, .val gvb, .val gvc, .val gvd, .val .null, rv b2, .unset, .unset, .unset, .unset] []))
    refine own_goW (fun _ k => XS.iconst X20.here hx rfl (hb hby at_275) k) ?_
    show own_GoW p e below s _ _ _ _ (T20.setTop (mkF m 276 #[iv p1, iv p2, iv p3, .val (.long q4), .second, .val (.long q5), .second, .val (.long q6), .second, iv ua, iv ub, iv uc, iv ud, iv ue, iv ul, ya, yb, yc, rv sb, .val gva, .val gvb, .val gvc, .val gvd, .val .null, rv b2, .unset, .unset, .unset, .unset] [(.int (1 : Int32))]))
    refine own_goW (fun _ k => XS.goto X20.here hx rfl (pc0 := 276) (pc' := 280) rfl (hb hby at_276) (by decide) (by decide) k) ?_
    show own_GoW p e below s _ _ _ _ (T20.setTop (mkF m 280 #[iv p1, iv p2, iv p3, .val (.long q4), .second, .val (.long q5), .second, .val (.long q6), .second, iv ua, iv ub, iv uc, iv ud, iv ue, iv ul, ya, yb, yc, rv sb, .val gva, .val gvb, .val gvc, .val gvd, .val .null, rv b2, .unset, .unset, .unset, .unset] [(.int (1 : Int32))]))
    refine own_goW (fun _ k => XS.istore X20.here hx rfl (hb hby at_280) rfl (l' := #[iv p1, iv p2, iv p3, .val (.long q4), .second, .val (.long q5), .second, .val (.long q6), .second, iv ua, iv ub, iv uc, iv ud, iv ue, iv ul, ya, yb, yc, rv sb, .val gva, .val gvb, .val gvc, .val gvd, .val .null, rv b2, iv (1 : Int32), .unset, .unset, .unset]) rfl k) ?_
    show own_GoW p e below s _ _ _ _ (T20.setTop (mkF m 282 #[iv p1, iv p2, iv p3, .val (.long q4), .second, .val (.long q5), .second, .val (.long q6), .second, iv ua, iv ub, iv uc, iv ud, iv ue, iv ul, ya, yb, yc, rv sb, .val gva, .val gvb, .val gvc, .val gvd, .val .null, rv b2, iv (1 : Int32), .unset, .unset, .unset] []))
    refine own_goW (fun _ k => XS.aload X20.here hx rfl (hb hby at_282) rfl rfl k) ?_
    show own_GoW p e below s _ _ _ _ (T20.setTop (mkF m 284 #[iv p1, iv p2, iv p3, .val (.long q4), .second, .val (.long q5), .second, .val (.long q6), .second, iv ua, iv ub, iv uc, iv ud, iv ue, iv ul, ya, yb, yc, rv sb, .val gva, .val gvb, .val gvc, .val gvd, .val .null, rv b2, iv (1 : Int32), .unset, .unset, .unset] [(.ref sb)]))
    obtain ⟨v23, T23, L23, X23, hQ23, st23⟩ := own_callS (y := (⟨"com/example/countersign/countersign/server/Exchange", "failed", "(Ljava/lang/String;)Lcom/example/countersign/countersign/server/Exchange;"⟩ : MethodName)) X20 hx hZ hown (ow50 hw) (ow51 hw) (ow25 hw) (ow52 hw) (rm_failed l Z a0 hw oCS oCz oCa oBx [] sb T11.heap O0) 0 1 5 (by show _ ≤ 48; omega) (by show _ ≤ 1216; omega) Kc21 (g := (mkF m 284 #[iv p1, iv p2, iv p3, .val (.long q4), .second, .val (.long q5), .second, .val (.long q6), .second, iv ua, iv ub, iv uc, iv ud, iv ue, iv ul, ya, yb, yc, rv sb, .val gva, .val gvb, .val gvc, .val gvd, .val .null, rv b2, iv (1 : Int32), .unset, .unset, .unset] [(.ref sb)])) rfl (by rw [hml]; rfl) [(.ref sb)] [] (lenOf own_pd_6 rfl) rfl rfl (hb hby at_284)
    obtain ⟨w24, rfl, Nc29, Kc28, hb25, f26, f27⟩ := hQ23
    refine own_goW st23 ?_
    clear st23 X20 Kc21
    replace N0 := Fr.app N0 Nc29
    clear Nc29
    have ne30 : b2 ≠ w24 := Nat.ne_of_lt (Nat.lt_of_lt_of_le f12.lt hb25)
    have big31 : Z.heap.size ≤ w24 := Nat.le_trans O0.1 hb25
    have sz32 : h0.size ≤ w24 := Nat.le_trans K0.1 hb25
    have sz33 : hs1.size ≤ w24 := Nat.le_trans K1.1 hb25
    replace hS := own_since hS Kc28.1
    replace hJ := own_Jkeep hZ hJ Kc28 all0
    replace f12 := f12.keep Kc28
    replace f13 := f13.keep Kc28 nin0
    replace f14 := f14.keep Kc28 nin0
    replace f15 := f15.keep Kc28 nin0
    replace f16 := f16.keep Kc28 nin0
    replace f17 := f17.keep Kc28 nin0
    replace O0 := own_oldKeep O0 Kc28 all0
    replace K0 := K0.trans Kc28 all0
    replace K1 := K1.trans Kc28 all0
    clear Kc28
    show own_GoW p e below s _ _ _ _ (T23.setTop (mkF m 287 #[iv p1, iv p2, iv p3, .val (.long q4), .second, .val (.long q5), .second, .val (.long q6), .second, iv ua, iv ub, iv uc, iv ud, iv ue, iv ul, ya, yb, yc, rv sb, .val gva, .val gvb, .val gvc, .val gvd, .val .null, rv b2, iv (1 : Int32), .unset, .unset, .unset] [(.ref w24)]))
    obtain ⟨v34, T34, L34, X34, hQ34, st34⟩ := own_callV (y := (⟨"com/example/countersign/countersign/server/Exchange", "succeeded", "()Z"⟩ : MethodName)) (z := (⟨"com/example/countersign/countersign/server/Exchange", "succeeded", "()Z"⟩ : MethodName)) X23 hx hZ hown (ow45 hw) (ow46 hw) (notFace_of_selects (args := #[]) (mvT hZ (ow48 hw))) (ow48 hw) (ow47 hw) (ow25 hw) (ow49 hw) (rm_succ1 l Z a0 hw oCS oCz oCa oBx [] w24 sb T23.heap O0 f27) 0 0 0 (by show _ ≤ 48; omega) (by show _ ≤ 1216; omega) (rfl : T23.heap = T23.heap) f26 (g := (mkF m 287 #[iv p1, iv p2, iv p3, .val (.long q4), .second, .val (.long q5), .second, .val (.long q6), .second, iv ua, iv ub, iv uc, iv ud, iv ue, iv ul, ya, yb, yc, rv sb, .val gva, .val gvb, .val gvc, .val gvd, .val .null, rv b2, iv (1 : Int32), .unset, .unset, .unset] [(.ref w24)])) rfl (by rw [hml]; rfl) [] [] (lenOf own_pd_5 rfl) rfl rfl (hb hby at_287)
    obtain ⟨rfl, Nc36, Kc35⟩ := hQ34
    refine own_goW st34 ?_
    clear st34 X23
    replace N0 := Fr.app N0 Nc36
    clear Nc36
    show own_GoW p e below s _ _ _ _ (T34.setTop (mkF m 290 #[iv p1, iv p2, iv p3, .val (.long q4), .second, .val (.long q5), .second, .val (.long q6), .second, iv ua, iv ub, iv uc, iv ud, iv ue, iv ul, ya, yb, yc, rv sb, .val gva, .val gvb, .val gvc, .val gvd, .val .null, rv b2, iv (1 : Int32), .unset, .unset, .unset] [(.int (0 : Int32))]))
    refine own_goW (fun _ k => XS.ifNo X34.here hx rfl (hb hby at_290) rfl ((if0 _ _).trans (teq (by decide : (0 : Int32) = (0 : Int32))).2) k) ?_
    show own_GoW p e below s _ _ _ _ (T34.setTop (mkF m 293 #[iv p1, iv p2, iv p3, .val (.long q4), .second, .val (.long q5), .second, .val (.long q6), .second, iv ua, iv ub, iv uc, iv ud, iv ue, iv ul, ya, yb, yc, rv sb, .val gva, .val gvb, .val gvc, .val gvd, .val .null, rv b2, iv (1 : Int32), .unset, .unset, .unset] []))
    refine own_goW (fun _ k => XS.iconst X34.here hx rfl (hb hby at_293) k) ?_
    show own_GoW p e below s _ _ _ _ (T34.setTop (mkF m 294 #[iv p1, iv p2, iv p3, .val (.long q4), .second, .val (.long q5), .second, .val (.long q6), .second, iv ua, iv ub, iv uc, iv ud, iv ue, iv ul, ya, yb, yc, rv sb, .val gva, .val gvb, .val gvc, .val gvd, .val .null, rv b2, iv (1 : Int32), .unset, .unset, .unset] [(.int (1 : Int32))]))
    refine own_goW (fun _ k => XS.goto X34.here hx rfl (pc0 := 294) (pc' := 298) rfl (hb hby at_294) (by decide) (by decide) k) ?_
    show own_GoW p e below s _ _ _ _ (T34.setTop (mkF m 298 #[iv p1, iv p2, iv p3, .val (.long q4), .second, .val (.long q5), .second, .val (.long q6), .second, iv ua, iv ub, iv uc, iv ud, iv ue, iv ul, ya, yb, yc, rv sb, .val gva, .val gvb, .val gvc, .val gvd, .val .null, rv b2, iv (1 : Int32), .unset, .unset, .unset] [(.int (1 : Int32))]))
    refine own_goW (fun _ k => XS.istore X34.here hx rfl (hb hby at_298) rfl (l' := #[iv p1, iv p2, iv p3, .val (.long q4), .second, .val (.long q5), .second, .val (.long q6), .second, iv ua, iv ub, iv uc, iv ud, iv ue, iv ul, ya, yb, yc, rv sb, .val gva, .val gvb, .val gvc, .val gvd, .val .null, rv b2, iv (1 : Int32), iv (1 : Int32), .unset, .unset]) rfl k) ?_
    show own_GoW p e below s _ _ _ _ (T34.setTop (mkF m 300 #[iv p1, iv p2, iv p3, .val (.long q4), .second, .val (.long q5), .second, .val (.long q6), .second, iv ua, iv ub, iv uc, iv ud, iv ue, iv ul, ya, yb, yc, rv sb, .val gva, .val gvb, .val gvc, .val gvd, .val .null, rv b2, iv (1 : Int32), iv (1 : Int32), .unset, .unset] []))
    refine own_goW (fun _ k => XS.aload X34.here hx rfl (hb hby at_300) rfl rfl k) ?_
    show own_GoW p e below s _ _ _ _ (T34.setTop (mkF m 302 #[iv p1, iv p2, iv p3, .val (.long q4), .second, .val (.long q5), .second, .val (.long q6), .second, iv ua, iv ub, iv uc, iv ud, iv ue, iv ul, ya, yb, yc, rv sb, .val gva, .val gvb, .val gvc, .val gvd, .val .null, rv b2, iv (1 : Int32), iv (1 : Int32), .unset, .unset] [(.ref sb)]))
    refine own_goW (fun _ k => XS.lloadN X34.here hx rfl (hb hby at_302) rfl k) ?_
    show own_GoW p e below s _ _ _ _ (T34.setTop (mkF m 303 #[iv p1, iv p2, iv p3, .val (.long q4), .second, .val (.long q5), .second, .val (.long q6), .second, iv ua, iv ub, iv uc, iv ud, iv ue, iv ul, ya, yb, yc, rv sb, .val gva, .val gvb, .val gvc, .val gvd, .val .null, rv b2, iv (1 : Int32), iv (1 : Int32), .unset, .unset] [(.long q4), (.ref sb)]))
    obtain ⟨v37, T37, L37, X37, hQ37, st37⟩ := own_callS (y := (⟨"com/example/countersign/countersign/server/Exchange", "lasting", "(Ljava/lang/String;J)Lcom/example/countersign/countersign/server/Exchange;"⟩ : MethodName)) X34 hx hZ hown (ow55 hw) (ow56 hw) (ow25 hw) (ow57 hw) (rm_lasting l Z a0 hw oCS oCz oCa oBx [] sb q4 T23.heap O0) 0 2 6 (by show _ ≤ 48; omega) (by show _ ≤ 1216; omega) Kc35 (g := (mkF m 303 #[iv p1, iv p2, iv p3, .val (.long q4), .second, .val (.long q5), .second, .val (.long q6), .second, iv ua, iv ub, iv uc, iv ud, iv ue, iv ul, ya, yb, yc, rv sb, .val gva, .val gvb, .val gvc, .val gvd, .val .null, rv b2, iv (1 : Int32), iv (1 : Int32), .unset, .unset] [(.long q4), (.ref sb)])) rfl (by rw [hml]; rfl) [(.ref sb), (.long q4)] [] (lenOf own_pd_7 rfl) rfl rfl (hb hby at_303)
    obtain ⟨w38, rfl, Nc43, Kc42, hb39, f40, f41⟩ := hQ37
    refine own_goW st37 ?_
    clear st37 X34 Kc35
    replace N0 := Fr.app N0 Nc43
    clear Nc43
    have ne44 : b2 ≠ w38 := Nat.ne_of_lt (Nat.lt_of_lt_of_le f12.lt hb39)
    have ne45 : w24 ≠ w38 := Nat.ne_of_lt (Nat.lt_of_lt_of_le f26.lt hb39)
    have big46 : Z.heap.size ≤ w38 := Nat.le_trans O0.1 hb39
    have sz47 : h0.size ≤ w38 := Nat.le_trans K0.1 hb39
    have sz48 : hs1.size ≤ w38 := Nat.le_trans K1.1 hb39
    replace hS := own_since hS Kc42.1
    replace hJ := own_Jkeep hZ hJ Kc42 all0
    replace f12 := f12.keep Kc42
    replace f13 := f13.keep Kc42 nin0
    replace f14 := f14.keep Kc42 nin0
    replace f15 := f15.keep Kc42 nin0
    replace f16 := f16.keep Kc42 nin0
    replace f17 := f17.keep Kc42 nin0
    replace f26 := f26.keep Kc42
    replace f27 := f27.keep Kc42 nin0
    replace O0 := own_oldKeep O0 Kc42 all0
    replace K0 := K0.trans Kc42 all0
    replace K1 := K1.trans Kc42 all0
    clear Kc42
    show own_GoW p e below s _ _ _ _ (T37.setTop (mkF m 306 #[iv p1, iv p2, iv p3, .val (.long q4), .second, .val (.long q5), .second, .val (.long q6), .second, iv ua, iv ub, iv uc, iv ud, iv ue, iv ul, ya, yb, yc, rv sb, .val gva, .val gvb, .val gvc, .val gvd, .val .null, rv b2, iv (1 : Int32), iv (1 : Int32), .unset, .unset] [(.ref w38)]))
    obtain ⟨v49, T49, L49, X49, hQ49, st49⟩ := own_callV (y := (⟨"com/example/countersign/countersign/server/Exchange", "succeeded", "()Z"⟩ : MethodName)) (z := (⟨"com/example/countersign/countersign/server/Exchange", "succeeded", "()Z"⟩ : MethodName)) X37 hx hZ hown (ow45 hw) (ow46 hw) (notFace_of_selects (args := #[]) (mvT hZ (ow48 hw))) (ow48 hw) (ow47 hw) (ow25 hw) (ow49 hw) (rm_succ0 l Z a0 hw oCS oCz oCa oBx [] w38 T37.heap O0 f41) 0 0 0 (by show _ ≤ 48; omega) (by show _ ≤ 1216; omega) (rfl : T37.heap = T37.heap) f40 (g := (mkF m 306 #[iv p1, iv p2, iv p3, .val (.long q4), .second, .val (.long q5), .second, .val (.long q6), .second, iv ua, iv ub, iv uc, iv ud, iv ue, iv ul, ya, yb, yc, rv sb, .val gva, .val gvb, .val gvc, .val gvd, .val .null, rv b2, iv (1 : Int32), iv (1 : Int32), .unset, .unset] [(.ref w38)])) rfl (by rw [hml]; rfl) [] [] (lenOf own_pd_5 rfl) rfl rfl (hb hby at_306)
    obtain ⟨rfl, Nc51, Kc50⟩ := hQ49
    refine own_goW st49 ?_
    clear st49 X37
    replace N0 := Fr.app N0 Nc51
    clear Nc51
    show own_GoW p e below s _ _ _ _ (T49.setTop (mkF m 309 #[iv p1, iv p2, iv p3, .val (.long q4), .second, .val (.long q5), .second, .val (.long q6), .second, iv ua, iv ub, iv uc, iv ud, iv ue, iv ul, ya, yb, yc, rv sb, .val gva, .val gvb, .val gvc, .val gvd, .val .null, rv b2, iv (1 : Int32), iv (1 : Int32), .unset, .unset] [(.int (1 : Int32))]))
    refine own_goW (fun _ k => XS.istore X49.here hx rfl (hb hby at_309) rfl (l' := #[iv p1, iv p2, iv p3, .val (.long q4), .second, .val (.long q5), .second, .val (.long q6), .second, iv ua, iv ub, iv uc, iv ud, iv ue, iv ul, ya, yb, yc, rv sb, .val gva, .val gvb, .val gvc, .val gvd, .val .null, rv b2, iv (1 : Int32), iv (1 : Int32), iv (1 : Int32), .unset]) rfl k) ?_
    show own_GoW p e below s _ _ _ _ (T49.setTop (mkF m 311 #[iv p1, iv p2, iv p3, .val (.long q4), .second, .val (.long q5), .second, .val (.long q6), .second, iv ua, iv ub, iv uc, iv ud, iv ue, iv ul, ya, yb, yc, rv sb, .val gva, .val gvb, .val gvc, .val gvd, .val .null, rv b2, iv (1 : Int32), iv (1 : Int32), iv (1 : Int32), .unset] []))
    refine own_goW (fun _ k => XS.aload X49.here hx rfl (hb hby at_311) rfl rfl k) ?_
    show own_GoW p e below s _ _ _ _ (T49.setTop (mkF m 313 #[iv p1, iv p2, iv p3, .val (.long q4), .second, .val (.long q5), .second, .val (.long q6), .second, iv ua, iv ub, iv uc, iv ud, iv ue, iv ul, ya, yb, yc, rv sb, .val gva, .val gvb, .val gvc, .val gvd, .val .null, rv b2, iv (1 : Int32), iv (1 : Int32), iv (1 : Int32), .unset] [(.ref sb)]))
    refine own_goW (fun _ k => XS.lloadN X49.here hx rfl (hb hby at_313) rfl k) ?_
    show own_GoW p e below s _ _ _ _ (T49.setTop (mkF m 314 #[iv p1, iv p2, iv p3, .val (.long q4), .second, .val (.long q5), .second, .val (.long q6), .second, iv ua, iv ub, iv uc, iv ud, iv ue, iv ul, ya, yb, yc, rv sb, .val gva, .val gvb, .val gvc, .val gvd, .val .null, rv b2, iv (1 : Int32), iv (1 : Int32), iv (1 : Int32), .unset] [(.long q4), (.ref sb)]))
    refine own_goW (fun _ k => XS.lload X49.here hx rfl (hb hby at_314) rfl k) ?_
    show own_GoW p e below s _ _ _ _ (T49.setTop (mkF m 316 #[iv p1, iv p2, iv p3, .val (.long q4), .second, .val (.long q5), .second, .val (.long q6), .second, iv ua, iv ub, iv uc, iv ud, iv ue, iv ul, ya, yb, yc, rv sb, .val gva, .val gvb, .val gvc, .val gvd, .val .null, rv b2, iv (1 : Int32), iv (1 : Int32), iv (1 : Int32), .unset] [(.long q5), (.long q4), (.ref sb)]))
    refine own_goW (fun _ k => XS.lload X49.here hx rfl (hb hby at_316) rfl k) ?_
    show own_GoW p e below s _ _ _ _ (T49.setTop (mkF m 318 #[iv p1, iv p2, iv p3, .val (.long q4), .second, .val (.long q5), .second, .val (.long q6), .second, iv ua, iv ub, iv uc, iv ud, iv ue, iv ul, ya, yb, yc, rv sb, .val gva, .val gvb, .val gvc, .val gvd, .val .null, rv b2, iv (1 : Int32), iv (1 : Int32), iv (1 : Int32), .unset] [(.long q6), (.long q5), (.long q4), (.ref sb)]))
    obtain ⟨v52, T52, L52, X52, hQ52, st52⟩ := own_callS (y := (⟨"com/example/countersign/countersign/server/Exchange", "expiring", "(Ljava/lang/String;JJJ)Lcom/example/countersign/countersign/server/Exchange;"⟩ : MethodName)) X49 hx hZ hown (ow78 hw) (ow79 hw) (ow25 hw) (ow80 hw) (rm_expiring l Z a0 hw oCS oCz oCa oBx [] sb q4 q5 q6 T37.heap O0) 0 4 8 (by show _ ≤ 48; omega) (by show _ ≤ 1216; omega) Kc50 (g := (mkF m 318 #[iv p1, iv p2, iv p3, .val (.long q4), .second, .val (.long q5), .second, .val (.long q6), .second, iv ua, iv ub, iv uc, iv ud, iv ue, iv ul, ya, yb, yc, rv sb, .val gva, .val gvb, .val gvc, .val gvd, .val .null, rv b2, iv (1 : Int32), iv (1 : Int32), iv (1 : Int32), .unset] [(.long q6), (.long q5), (.long q4), (.ref sb)])) rfl (by rw [hml]; rfl) [(.ref sb), (.long q4), (.long q5), (.long q6)] [] (lenOf own_pd_8 rfl) rfl rfl (hb hby at_318)
    obtain ⟨w53, rfl, Nc58, Kc57, hb54, f55, f56⟩ := hQ52
    refine own_goW st52 ?_
    clear st52 X49 Kc50
    replace N0 := Fr.app N0 Nc58
    clear Nc58
    have ne59 : b2 ≠ w53 := Nat.ne_of_lt (Nat.lt_of_lt_of_le f12.lt hb54)
    have ne60 : w24 ≠ w53 := Nat.ne_of_lt (Nat.lt_of_lt_of_le f26.lt hb54)
    have ne61 : w38 ≠ w53 := Nat.ne_of_lt (Nat.lt_of_lt_of_le f40.lt hb54)
    have big62 : Z.heap.size ≤ w53 := Nat.le_trans O0.1 hb54
    have sz63 : h0.size ≤ w53 := Nat.le_trans K0.1 hb54
    have sz64 : hs1.size ≤ w53 := Nat.le_trans K1.1 hb54
    replace hS := own_since hS Kc57.1
    replace hJ := own_Jkeep hZ hJ Kc57 all0
    replace f12 := f12.keep Kc57
    replace f13 := f13.keep Kc57 nin0
    replace f14 := f14.keep Kc57 nin0
    replace f15 := f15.keep Kc57 nin0
    replace f16 := f16.keep Kc57 nin0
    replace f17 := f17.keep Kc57 nin0
    replace f26 := f26.keep Kc57
    replace f27 := f27.keep Kc57 nin0
    replace f40 := f40.keep Kc57
    replace f41 := f41.keep Kc57 nin0
    replace O0 := own_oldKeep O0 Kc57 all0
    replace K0 := K0.trans Kc57 all0
    replace K1 := K1.trans Kc57 all0
    clear Kc57
    show own_GoW p e below s _ _ _ _ (T52.setTop (mkF m 321 #[iv p1, iv p2, iv p3, .val (.long q4), .second, .val (.long q5), .second, .val (.long q6), .second, iv ua, iv ub, iv uc, iv ud, iv ue, iv ul, ya, yb, yc, rv sb, .val gva, .val gvb, .val gvc, .val gvd, .val .null, rv b2, iv (1 : Int32), iv (1 : Int32), iv (1 : Int32), .unset] [(.ref w53)]))
    obtain ⟨v65, T65, L65, X65, hQ65, st65⟩ := own_callV (y := (⟨"com/example/countersign/countersign/server/Exchange", "succeeded", "()Z"⟩ : MethodName)) (z := (⟨"com/example/countersign/countersign/server/Exchange", "succeeded", "()Z"⟩ : MethodName)) X52 hx hZ hown (ow45 hw) (ow46 hw) (notFace_of_selects (args := #[]) (mvT hZ (ow48 hw))) (ow48 hw) (ow47 hw) (ow25 hw) (ow49 hw) (rm_succ0 l Z a0 hw oCS oCz oCa oBx [] w53 T52.heap O0 f56) 0 0 0 (by show _ ≤ 48; omega) (by show _ ≤ 1216; omega) (rfl : T52.heap = T52.heap) f55 (g := (mkF m 321 #[iv p1, iv p2, iv p3, .val (.long q4), .second, .val (.long q5), .second, .val (.long q6), .second, iv ua, iv ub, iv uc, iv ud, iv ue, iv ul, ya, yb, yc, rv sb, .val gva, .val gvb, .val gvc, .val gvd, .val .null, rv b2, iv (1 : Int32), iv (1 : Int32), iv (1 : Int32), .unset] [(.ref w53)])) rfl (by rw [hml]; rfl) [] [] (lenOf own_pd_5 rfl) rfl rfl (hb hby at_321)
    obtain ⟨rfl, Nc67, Kc66⟩ := hQ65
    refine own_goW st65 ?_
    clear st65 X52
    replace N0 := Fr.app N0 Nc67
    clear Nc67
    show own_GoW p e below s _ _ _ _ (T65.setTop (mkF m 324 #[iv p1, iv p2, iv p3, .val (.long q4), .second, .val (.long q5), .second, .val (.long q6), .second, iv ua, iv ub, iv uc, iv ud, iv ue, iv ul, ya, yb, yc, rv sb, .val gva, .val gvb, .val gvc, .val gvd, .val .null, rv b2, iv (1 : Int32), iv (1 : Int32), iv (1 : Int32), .unset] [(.int (1 : Int32))]))
    refine own_goW (fun _ k => XS.istore X65.here hx rfl (hb hby at_324) rfl (l' := #[iv p1, iv p2, iv p3, .val (.long q4), .second, .val (.long q5), .second, .val (.long q6), .second, iv ua, iv ub, iv uc, iv ud, iv ue, iv ul, ya, yb, yc, rv sb, .val gva, .val gvb, .val gvc, .val gvd, .val .null, rv b2, iv (1 : Int32), iv (1 : Int32), iv (1 : Int32), iv (1 : Int32)]) rfl k) ?_
    show own_GoW p e below s _ _ _ _ (T65.setTop (mkF m 326 #[iv p1, iv p2, iv p3, .val (.long q4), .second, .val (.long q5), .second, .val (.long q6), .second, iv ua, iv ub, iv uc, iv ud, iv ue, iv ul, ya, yb, yc, rv sb, .val gva, .val gvb, .val gvc, .val gvd, .val .null, rv b2, iv (1 : Int32), iv (1 : Int32), iv (1 : Int32), iv (1 : Int32)] []))
    refine own_goW (fun _ k => XS.iload X65.here hx rfl (hb hby at_326) rfl k) ?_
    show own_GoW p e below s _ _ _ _ (T65.setTop (mkF m 328 #[iv p1, iv p2, iv p3, .val (.long q4), .second, .val (.long q5), .second, .val (.long q6), .second, iv ua, iv ub, iv uc, iv ud, iv ue, iv ul, ya, yb, yc, rv sb, .val gva, .val gvb, .val gvc, .val gvd, .val .null, rv b2, iv (1 : Int32), iv (1 : Int32), iv (1 : Int32), iv (1 : Int32)] [(.int (1 : Int32))]))
    refine own_goW (fun _ k => XS.ifNo X65.here hx rfl (hb hby at_328) rfl ((if0 _ _).trans (feq (by decide : ¬ ((1 : Int32) = (0 : Int32)))).1) k) ?_
    show own_GoW p e below s _ _ _ _ (T65.setTop (mkF m 331 #[iv p1, iv p2, iv p3, .val (.long q4), .second, .val (.long q5), .second, .val (.long q6), .second, iv ua, iv ub, iv uc, iv ud, iv ue, iv ul, ya, yb, yc, rv sb, .val gva, .val gvb, .val gvc, .val gvd, .val .null, rv b2, iv (1 : Int32), iv (1 : Int32), iv (1 : Int32), iv (1 : Int32)] []))
    refine own_goW (fun _ k => XS.iload X65.here hx rfl (hb hby at_331) rfl k) ?_
    show own_GoW p e below s _ _ _ _ (T65.setTop (mkF m 333 #[iv p1, iv p2, iv p3, .val (.long q4), .second, .val (.long q5), .second, .val (.long q6), .second, iv ua, iv ub, iv uc, iv ud, iv ue, iv ul, ya, yb, yc, rv sb, .val gva, .val gvb, .val gvc, .val gvd, .val .null, rv b2, iv (1 : Int32), iv (1 : Int32), iv (1 : Int32), iv (1 : Int32)] [(.int (1 : Int32))]))
    refine own_goW (fun _ k => XS.ifNo X65.here hx rfl (hb hby at_333) rfl ((if0 _ _).trans (feq (by decide : ¬ ((1 : Int32) = (0 : Int32)))).1) k) ?_
    show own_GoW p e below s _ _ _ _ (T65.setTop (mkF m 336 #[iv p1, iv p2, iv p3, .val (.long q4), .second, .val (.long q5), .second, .val (.long q6), .second, iv ua, iv ub, iv uc, iv ud, iv ue, iv ul, ya, yb, yc, rv sb, .val gva, .val gvb, .val gvc, .val gvd, .val .null, rv b2, iv (1 : Int32), iv (1 : Int32), iv (1 : Int32), iv (1 : Int32)] []))
    refine own_goW (fun _ k => XS.iload X65.here hx rfl (hb hby at_336) rfl k) ?_
    show own_GoW p e below s _ _ _ _ (T65.setTop (mkF m 338 #[iv p1, iv p2, iv p3, .val (.long q4), .second, .val (.long q5), .second, .val (.long q6), .second, iv ua, iv ub, iv uc, iv ud, iv ue, iv ul, ya, yb, yc, rv sb, .val gva, .val gvb, .val gvc, .val gvd, .val .null, rv b2, iv (1 : Int32), iv (1 : Int32), iv (1 : Int32), iv (1 : Int32)] [(.int (1 : Int32))]))
    refine own_goW (fun _ k => XS.ifNo X65.here hx rfl (hb hby at_338) rfl ((if0 _ _).trans (feq (by decide : ¬ ((1 : Int32) = (0 : Int32)))).1) k) ?_
    show own_GoW p e below s _ _ _ _ (T65.setTop (mkF m 341 #[iv p1, iv p2, iv p3, .val (.long q4), .second, .val (.long q5), .second, .val (.long q6), .second, iv ua, iv ub, iv uc, iv ud, iv ue, iv ul, ya, yb, yc, rv sb, .val gva, .val gvb, .val gvc, .val gvd, .val .null, rv b2, iv (1 : Int32), iv (1 : Int32), iv (1 : Int32), iv (1 : Int32)] []))
    refine own_goW (fun _ k => XS.iload X65.here hx rfl (hb hby at_341) rfl k) ?_
    show own_GoW p e below s _ _ _ _ (T65.setTop (mkF m 343 #[iv p1, iv p2, iv p3, .val (.long q4), .second, .val (.long q5), .second, .val (.long q6), .second, iv ua, iv ub, iv uc, iv ud, iv ue, iv ul, ya, yb, yc, rv sb, .val gva, .val gvb, .val gvc, .val gvd, .val .null, rv b2, iv (1 : Int32), iv (1 : Int32), iv (1 : Int32), iv (1 : Int32)] [(.int (1 : Int32))]))
    refine own_goW (fun _ k => XS.ifNo X65.here hx rfl (hb hby at_343) rfl ((if0 _ _).trans (feq (by decide : ¬ ((1 : Int32) = (0 : Int32)))).1) k) ?_
    show own_GoW p e below s _ _ _ _ (T65.setTop (mkF m 346 #[iv p1, iv p2, iv p3, .val (.long q4), .second, .val (.long q5), .second, .val (.long q6), .second, iv ua, iv ub, iv uc, iv ud, iv ue, iv ul, ya, yb, yc, rv sb, .val gva, .val gvb, .val gvc, .val gvd, .val .null, rv b2, iv (1 : Int32), iv (1 : Int32), iv (1 : Int32), iv (1 : Int32)] []))
    refine own_goW (fun _ k => XS.iconst X65.here hx rfl (hb hby at_346) k) ?_
    show own_GoW p e below s _ _ _ _ (T65.setTop (mkF m 347 #[iv p1, iv p2, iv p3, .val (.long q4), .second, .val (.long q5), .second, .val (.long q6), .second, iv ua, iv ub, iv uc, iv ud, iv ue, iv ul, ya, yb, yc, rv sb, .val gva, .val gvb, .val gvc, .val gvd, .val .null, rv b2, iv (1 : Int32), iv (1 : Int32), iv (1 : Int32), iv (1 : Int32)] [(.int (1 : Int32))]))
    refine own_goW (fun _ k => XS.goto X65.here hx rfl (pc0 := 347) (pc' := 351) rfl (hb hby at_347) (by decide) (by decide) k) ?_
    show own_GoW p e below s _ _ _ _ (T65.setTop (mkF m 351 #[iv p1, iv p2, iv p3, .val (.long q4), .second, .val (.long q5), .second, .val (.long q6), .second, iv ua, iv ub, iv uc, iv ud, iv ue, iv ul, ya, yb, yc, rv sb, .val gva, .val gvb, .val gvc, .val gvd, .val .null, rv b2, iv (1 : Int32), iv (1 : Int32), iv (1 : Int32), iv (1 : Int32)] [(.int (1 : Int32))]))
    refine own_retNW X65 hS hL hZ hJ hx hlk Kc66 (t := .boolean) hret (by simp) (hb hby at_351) (by show _ ≤ 48; omega) (by show _ ≤ 1216; omega) ?_
    exact ⟨rfl, N0, K0⟩
  · refine own_goW (fun _ k => XS.ifNo X0.here hx rfl (hb hby at_227) rfl ((if0 _ _).trans (feq hc1).1) k) ?_
    show own_GoW p e below s _ _ _ _ (T.setTop (mkF m 230 #[iv p1, iv p2, iv p3, .val (.long q4), .second, .val (.long q5), .second, .val (.long q6), .second, iv ua, iv ub, iv uc, iv ud, iv ue, iv ul, ya, yb, yc, rv sb, .val gva, .val gvb, .val gvc, .val gvd, .unset, .unset, .unset, .unset, .unset, .unset] []))
    refine own_goW (fun _ k => XS.aload X0.here hx rfl (hb hby at_230) rfl rfl k) ?_
    show own_GoW p e below s _ _ _ _ (T.setTop (mkF m 232 #[iv p1, iv p2, iv p3, .val (.long q4), .second, .val (.long q5), .second, .val (.long q6), .second, iv ua, iv ub, iv uc, iv ud, iv ue, iv ul, ya, yb, yc, rv sb, .val gva, .val gvb, .val gvc, .val gvd, .unset, .unset, .unset, .unset, .unset, .unset] [(.ref sb)]))
    refine own_goW (fun _ k => XS.goto X0.here hx rfl (pc0 := 232) (pc' := 236) rfl (hb hby at_232) (by decide) (by decide) k) ?_
    show own_GoW p e below s _ _ _ _ (T.setTop (mkF m 236 #[iv p1, iv p2, iv p3, .val (.long q4), .second, .val (.long q5), .second, .val (.long q6), .second, iv ua, iv ub, iv uc, iv ud, iv ue, iv ul, ya, yb, yc, rv sb, .val gva, .val gvb, .val gvc, .val gvd, .unset, .unset, .unset, .unset, .unset, .unset] [(.ref sb)]))
    refine own_goW (fun _ k => XS.astore X0.here hx rfl (hb hby at_236) rfl rfl (l' := #[iv p1, iv p2, iv p3, .val (.long q4), .second, .val (.long q5), .second, .val (.long q6), .second, iv ua, iv ub, iv uc, iv ud, iv ue, iv ul, ya, yb, yc, rv sb, .val gva, .val gvb, .val gvc, .val gvd, rv sb, .unset, .unset, .unset, .unset, .unset]) rfl k) ?_
    show own_GoW p e below s _ _ _ _ (T.setTop (mkF m 238 #[iv p1, iv p2, iv p3, .val (.long q4), .second, .val (.long q5), .second, .val (.long q6), .second, iv ua, iv ub, iv uc, iv ud, iv ue, iv ul, ya, yb, yc, rv sb, .val gva, .val gvb, .val gvc, .val gvd, rv sb, .unset, .unset, .unset, .unset, .unset] []))
    obtain ⟨T68, h68, X68, e68, E68, A68, D68, -, st68⟩ := newO X0 hx hZ hown (ow23 hw) (ow24 hw) (ow25 hw) e0 (g := (mkF m 238 #[iv p1, iv p2, iv p3, .val (.long q4), .second, .val (.long q5), .second, .val (.long q6), .second, iv ua, iv ub, iv uc, iv ud, iv ue, iv ul, ya, yb, yc, rv sb, .val gva, .val gvb, .val gvc, .val gvd, rv sb, .unset, .unset, .unset, .unset, .unset] [])) rfl (hb hby at_238) (by show _ ≤ 48; omega) (by show _ ≤ 1216; omega)
    obtain ⟨b68, g68⟩ : ∃ z, z = hs1.size := ⟨_, rfl⟩
    rw [← g68] at A68 D68 st68
    refine own_goW st68 ?_
    clear st68 X0 e0
    have ge68 := Nat.le_of_eq g68.symm
    have big69 : Z.heap.size ≤ b68 := Nat.le_trans O0.1 ge68
    have sz70 : h0.size ≤ b68 := Nat.le_trans K0.1 ge68
    have sz71 : hs1.size ≤ b68 := Nat.le_trans K1.1 ge68
    replace O0 := own_oldExt O0 E68
    replace K0 := K0.ext E68
    replace K1 := K1.ext E68
    replace hS := own_since hS E68.1
    replace hJ := own_Jext hJ E68
    clear E68
    have f72 : Fld Z h68 b68 "com/example/countersign/countersign/server/Exchange" "artefact" "Ljava/lang/String;" .null := D68 (Or.inr (ow36 hw)) (ty := (.object "java/lang/String")) own_fd3
    have f73 : Fld Z h68 b68 "com/example/countersign/countersign/server/Exchange" "activatedAt" "Ljava/lang/Long;" .null := D68 (Or.inr (ow38 hw)) (ty := (.object "java/lang/Long")) own_fd4
    have f74 : Fld Z h68 b68 "com/example/countersign/countersign/server/Exchange" "expiresAt" "Ljava/lang/Long;" .null := D68 (Or.inr (ow40 hw)) (ty := (.object "java/lang/Long")) own_fd4
    have f75 : Fld Z h68 b68 "com/example/countersign/countersign/server/Exchange" "refreshAt" "Ljava/lang/Long;" .null := D68 (Or.inr (ow42 hw)) (ty := (.object "java/lang/Long")) own_fd4
    have f76 : Fld Z h68 b68 "com/example/countersign/countersign/server/Exchange" "failure" "Ljava/lang/String;" .null := D68 (Or.inr (ow44 hw)) (ty := (.object "java/lang/String")) own_fd3
    show own_GoW p e below s _ _ _ _ (T68.setTop (mkF m 241 #[iv p1, iv p2, iv p3, .val (.long q4), .second, .val (.long q5), .second, .val (.long q6), .second, iv ua, iv ub, iv uc, iv ud, iv ue, iv ul, ya, yb, yc, rv sb, .val gva, .val gvb, .val gvc, .val gvd, rv sb, .unset, .unset, .unset, .unset, .unset] [(.ref b68)]))
    refine own_goW (fun _ k => XS.dup X68.here hx rfl (hb hby at_241) rfl rfl k) ?_
    show own_GoW p e below s _ _ _ _ (T68.setTop (mkF m 242 #[iv p1, iv p2, iv p3, .val (.long q4), .second, .val (.long q5), .second, .val (.long q6), .second, iv ua, iv ub, iv uc, iv ud, iv ue, iv ul, ya, yb, yc, rv sb, .val gva, .val gvb, .val gvc, .val gvd, rv sb, .unset, .unset, .unset, .unset, .unset] [(.ref b68), (.ref b68)]))
    refine own_goW (fun _ k => XS.aload X68.here hx rfl (hb hby at_242) rfl r_gva k) ?_
    show own_GoW p e below s _ _ _ _ (T68.setTop (mkF m 244 #[iv p1, iv p2, iv p3, .val (.long q4), .second, .val (.long q5), .second, .val (.long q6), .second, iv ua, iv ub, iv uc, iv ud, iv ue, iv ul, ya, yb, yc, rv sb, .val gva, .val gvb, .val gvc, .val gvd, rv sb, .unset, .unset, .unset, .unset, .unset] [gva, (.ref b68), (.ref b68)]))
    refine own_goW (fun _ k => XS.aload X68.here hx rfl (hb hby at_244) rfl r_gvb k) ?_
    show own_GoW p e below s _ _ _ _ (T68.setTop (mkF m 246 #[iv p1, iv p2, iv p3, .val (.long q4), .second, .val (.long q5), .second, .val (.long q6), .second, iv ua, iv ub, iv uc, iv ud, iv ue, iv ul, ya, yb, yc, rv sb, .val gva, .val gvb, .val gvc, .val gvd, rv sb, .unset, .unset, .unset, .unset, .unset] [gvb, gva, (.ref b68), (.ref b68)]))
    refine own_goW (fun _ k => XS.aload X68.here hx rfl (hb hby at_246) rfl r_gvc k) ?_
    show own_GoW p e below s _ _ _ _ (T68.setTop (mkF m 248 #[iv p1, iv p2, iv p3, .val (.long q4), .second, .val (.long q5), .second, .val (.long q6), .second, iv ua, iv ub, iv uc, iv ud, iv ue, iv ul, ya, yb, yc, rv sb, .val gva, .val gvb, .val gvc, .val gvd, rv sb, .unset, .unset, .unset, .unset, .unset] [gvc, gvb, gva, (.ref b68), (.ref b68)]))
    refine own_goW (fun _ k => XS.aload X68.here hx rfl (hb hby at_248) rfl r_gvd k) ?_
    show own_GoW p e below s _ _ _ _ (T68.setTop (mkF m 250 #[iv p1, iv p2, iv p3, .val (.long q4), .second, .val (.long q5), .second, .val (.long q6), .second, iv ua, iv ub, iv uc, iv ud, iv ue, iv ul, ya, yb, yc, rv sb, .val gva, .val gvb, .val gvc, .val gvd, rv sb, .unset, .unset, .unset, .unset, .unset] [gvd, gvc, gvb, gva, (.ref b68), (.ref b68)]))
    refine own_goW (fun _ k => XS.aload X68.here hx rfl (hb hby at_250) rfl rfl k) ?_
    show own_GoW p e below s _ _ _ _ (T68.setTop (mkF m 252 #[iv p1, iv p2, iv p3, .val (.long q4), .second, .val (.long q5), .second, .val (.long q6), .second, iv ua, iv ub, iv uc, iv ud, iv ue, iv ul, ya, yb, yc, rv sb, .val gva, .val gvb, .val gvc, .val gvd, rv sb, .unset, .unset, .unset, .unset, .unset] [(.ref sb), gvd, gvc, gvb, gva, (.ref b68), (.ref b68)]))
    obtain ⟨v77, T77, L77, X77, hQ77, st77⟩ := own_callI (y := (⟨"com/example/countersign/countersign/server/Exchange", "<init>", "(Ljava/lang/String;Ljava/lang/Long;Ljava/lang/Long;Ljava/lang/Long;Ljava/lang/String;)V"⟩ : MethodName)) X68 hx hZ hown (ow26 hw) (ow27 hw) (ow25 hw) (ow28 hw) (rm_xinit l Z a0 hw oCS oCz oCa oBx [] b68 gva gvb gvc gvd (.ref sb) h68 O0 r_gva r_gvb r_gvc r_gvd (rfl : ((.ref sb) : Value).isRef = true) A68 f72 f73 f74 f75 f76 big69) 1 0 0 rfl (by show _ ≤ 48; omega) (by show _ ≤ 1216; omega) e68 (g := (mkF m 252 #[iv p1, iv p2, iv p3, .val (.long q4), .second, .val (.long q5), .second, .val (.long q6), .second, iv ua, iv ub, iv uc, iv ud, iv ue, iv ul, ya, yb, yc, rv sb, .val gva, .val gvb, .val gvc, .val gvd, rv sb, .unset, .unset, .unset, .unset, .unset] [(.ref sb), gvd, gvc, gvb, gva, (.ref b68), (.ref b68)])) rfl (by rw [hml]; rfl) b68 [gva, gvb, gvc, gvd, (.ref sb)] [(.ref b68)] (lenOf own_pd_3 rfl) rfl rfl (hb hby at_252)
    obtain ⟨rfl, Nc85, Kc84, f78, f79, f80, f81, f82, f83⟩ := hQ77
    refine own_goW st77 ?_
    clear st77 X68 e68
    replace N0 := Fr.app N0 Nc85
    clear Nc85
    replace hS := own_since hS Kc84.1
    replace hJ := own_Jkeep hZ hJ Kc84 (allS (own_farE A68 (by decide) (ow24 hw)) all0)
    replace A68 := A68.keep Kc84
    clear f72
    clear f73
    clear f74
    clear f75
    clear f76
    replace O0 := own_oldKeep O0 Kc84 (allS big69 all0)
    replace K0 := K0.trans Kc84 (allS (Or.inr sz70) all0)
    replace K1 := K1.trans Kc84 (allS (Or.inr sz71) all0)
    clear Kc84
    show own_GoW p e below s _ _ _ _ (T77.setTop (mkF m 255 #[iv p1, iv p2, iv p3, .val (.long q4), .second, .val (.long q5), .second, .val (.long q6), .second, iv ua, iv ub, iv uc, iv ud, iv ue, iv ul, ya, yb, yc, rv sb, .val gva, .val gvb, .val gvc, .val gvd, rv sb, .unset, .unset, .unset, .unset, .unset] [(.ref b68)]))
    refine own_goW (fun _ k => XS.astore X77.here hx rfl (hb hby at_255) rfl rfl (l' := #[iv p1, iv p2, iv p3, .val (.long q4), .second, .val (.long q5), .second, .val (.long q6), .second, iv ua, iv ub, iv uc, iv ud, iv ue, iv ul, ya, yb, yc, rv sb, .val gva, .val gvb, .val gvc, .val gvd, rv sb, rv b68, .unset, .unset, .unset, .unset]) rfl k) ?_
    show own_GoW p e below s _ _ _ _ (T77.setTop (mkF m 257 #[iv p1, iv p2, iv p3, .val (.long q4), .second, .val (.long q5), .second, .val (.long q6), .second, iv ua, iv ub, iv uc, iv ud, iv ue, iv ul, ya, yb, yc, rv sb, .val gva, .val gvb, .val gvc, .val gvd, rv sb, rv b68, .unset, .unset, .unset, .unset] []))
    refine own_goW (fun _ k => XS.aload X77.here hx rfl (hb hby at_257) rfl rfl k) ?_
    show own_GoW p e below s _ _ _ _ (T77.setTop (mkF m 259 #[iv p1, iv p2, iv p3, .val (.long q4), .second, .val (.long q5), .second, .val (.long q6), .second, iv ua, iv ub, iv uc, iv ud, iv ue, iv ul, ya, yb, yc, rv sb, .val gva, .val gvb, .val gvc, .val gvd, rv sb, rv b68, .unset, .unset, .unset, .unset] [(.ref b68)]))
    obtain ⟨v86, T86, L86, X86, hQ86, st86⟩ := own_callV (y := (⟨"com/example/countersign/countersign/server/Exchange", "succeeded", "()Z"⟩ : MethodName)) (z := (⟨"com/example/countersign/countersign/server/Exchange", "succeeded", "()Z"⟩ : MethodName)) X77 hx hZ hown (ow45 hw) (ow46 hw) (notFace_of_selects (args := #[]) (mvT hZ (ow48 hw))) (ow48 hw) (ow47 hw) (ow25 hw) (ow49 hw) (rm_succ1 l Z a0 hw oCS oCz oCa oBx [] b68 sb T77.heap O0 f83) 0 0 0 (by show _ ≤ 48; omega) (by show _ ≤ 1216; omega) (rfl : T77.heap = T77.heap) f78 (g := (mkF m 259 #[iv p1, iv p2, iv p3, .val (.long q4), .second, .val (.long q5), .second, .val (.long q6), .second, iv ua, iv ub, iv uc, iv ud, iv ue, iv ul, ya, yb, yc, rv sb, .val gva, .val gvb, .val gvc, .val gvd, rv sb, rv b68, .unset, .unset, .unset, .unset] [(.ref b68)])) rfl (by rw [hml]; rfl) [] [] (lenOf own_pd_5 rfl) rfl rfl (hb hby at_259)
    obtain ⟨rfl, Nc88, Kc87⟩ := hQ86
    refine own_goW st86 ?_
    clear st86 X77
    replace N0 := Fr.app N0 Nc88
    clear Nc88
    show own_GoW p e below s _ _ _ _ (T86.setTop (mkF m 262 #[iv p1, iv p2, iv p3, .val (.long q4), .second, .val (.long q5), .second, .val (.long q6), .second, iv ua, iv ub, iv uc, iv ud, iv ue, iv ul, ya, yb, yc, rv sb, .val gva, .val gvb, .val gvc, .val gvd, rv sb, rv b68, .unset, .unset, .unset, .unset] [(.int (0 : Int32))]))
    refine own_goW (fun _ k => XS.iload X86.here hx rfl (hb hby at_262) rfl k) ?_
    show own_GoW p e below s _ _ _ _ (T86.setTop (mkF m 264 #[iv p1, iv p2, iv p3, .val (.long q4), .second, .val (.long q5), .second, .val (.long q6), .second, iv ua, iv ub, iv uc, iv ud, iv ue, iv ul, ya, yb, yc, rv sb, .val gva, .val gvb, .val gvc, .val gvd, rv sb, rv b68, .unset, .unset, .unset, .unset] [(.int ue), (.int (0 : Int32))]))
    refine own_goW (fun _ k => XS.ifYes X86.here hx rfl (pc0 := 264) (pc' := 271) rfl (hb hby at_264) rfl ((if0 _ _).trans (feq hc1).2) (by decide) (by decide) k) ?_
    show own_GoW p e below s _ _ _ _ (T86.setTop (mkF m 271 #[iv p1, iv p2, iv p3, .val (.long q4), .second, .val (.long q5), .second, .val (.long q6), .second, iv ua, iv ub, iv uc, iv ud, iv ue, iv ul, ya, yb, yc, rv sb, .val gva, .val gvb, .val gvc, .val gvd, rv sb, rv b68, .unset, .unset, .unset, .unset] [(.int (0 : Int32))]))
    refine own_goW (fun _ k => XS.iconst X86.here hx rfl (hb hby at_271) k) ?_
    show own_GoW p e below s _ _ _ _ (T86.setTop (mkF m 272 #[iv p1, iv p2, iv p3, .val (.long q4), .second, .val (.long q5), .second, .val (.long q6), .second, iv ua, iv ub, iv uc, iv ud, iv ue, iv ul, ya, yb, yc, rv sb, .val gva, .val gvb, .val gvc, .val gvd, rv sb, rv b68, .unset, .unset, .unset, .unset] [(.int (0 : Int32)), (.int (0 : Int32))]))
    refine own_goW (fun _ k => XS.icmpNo X86.here hx rfl (hb hby at_272) rfl (teq (by decide : (0 : Int32) = (0 : Int32))).2 k) ?_
    show own_GoW p e below s _ _ _ _ (T86.setTop (mkF m 275 #[iv p1, iv p2, iv p3, .val (.long q4), .second, .val (.long q5), .second, .val (.long q6), .second, iv ua, iv ub, iv uc, iv ud, iv ue, iv ul, ya, yb, yc, rv sb, .val gva, .val gvb, .val gvc, .val gvd, rv sb, rv b68, .unset, .unset, .unset, .unset] []))
    refine own_goW (fun _ k => XS.iconst X86.here hx rfl (hb hby at_275) k) ?_
    show own_GoW p e below s _ _ _ _ (T86.setTop (mkF m 276 #[iv p1, iv p2, iv p3, .val (.long q4), .second, .val (.long q5), .second, .val (.long q6), .second, iv ua, iv ub, iv uc, iv ud, iv ue, iv ul, ya, yb, yc, rv sb, .val gva, .val gvb, .val gvc, .val gvd, rv sb, rv b68, .unset, .unset, .unset, .unset] [(.int (1 : Int32))]))
    refine own_goW (fun _ k => XS.goto X86.here hx rfl (pc0 := 276) (pc' := 280) rfl (hb hby at_276) (by decide) (by decide) k) ?_
    show own_GoW p e below s _ _ _ _ (T86.setTop (mkF m 280 #[iv p1, iv p2, iv p3, .val (.long q4), .second, .val (.long q5), .second, .val (.long q6), .second, iv ua, iv ub, iv uc, iv ud, iv ue, iv ul, ya, yb, yc, rv sb, .val gva, .val gvb, .val gvc, .val gvd, rv sb, rv b68, .unset, .unset, .unset, .unset] [(.int (1 : Int32))]))
    refine own_goW (fun _ k => XS.istore X86.here hx rfl (hb hby at_280) rfl (l' := #[iv p1, iv p2, iv p3, .val (.long q4), .second, .val (.long q5), .second, .val (.long q6), .second, iv ua, iv ub, iv uc, iv ud, iv ue, iv ul, ya, yb, yc, rv sb, .val gva, .val gvb, .val gvc, .val gvd, rv sb, rv b68, iv (1 : Int32), .unset, .unset, .unset]) rfl k) ?_
    show own_GoW p e below s _ _ _ _ (T86.setTop (mkF m 282 #[iv p1, iv p2, iv p3, .val (.long q4), .second, .val (.long q5), .second, .val (.long q6), .second, iv ua, iv ub, iv uc, iv ud, iv ue, iv ul, ya, yb, yc, rv sb, .val gva, .val gvb, .val gvc, .val gvd, rv sb, rv b68, iv (1 : Int32), .unset, .unset, .unset] []))
    refine own_goW (fun _ k => XS.aload X86.here hx rfl (hb hby at_282) rfl rfl k) ?_
    show own_GoW p e below s _ _ _ _ (T86.setTop (mkF m 284 #[iv p1, iv p2, iv p3, .val (.long q4), .second, .val (.long q5), .second, .val (.long q6), .second, iv ua, iv ub, iv uc, iv ud, iv ue, iv ul, ya, yb, yc, rv sb, .val gva, .val gvb, .val gvc, .val gvd, rv sb, rv b68, iv (1 : Int32), .unset, .unset, .unset] [(.ref sb)]))
    obtain ⟨v89, T89, L89, X89, hQ89, st89⟩ := own_callS (y := (⟨"com/example/countersign/countersign/server/Exchange", "failed", "(Ljava/lang/String;)Lcom/example/countersign/countersign/server/Exchange;"⟩ : MethodName)) X86 hx hZ hown (ow50 hw) (ow51 hw) (ow25 hw) (ow52 hw) (rm_failed l Z a0 hw oCS oCz oCa oBx [] sb T77.heap O0) 0 1 5 (by show _ ≤ 48; omega) (by show _ ≤ 1216; omega) Kc87 (g := (mkF m 284 #[iv p1, iv p2, iv p3, .val (.long q4), .second, .val (.long q5), .second, .val (.long q6), .second, iv ua, iv ub, iv uc, iv ud, iv ue, iv ul, ya, yb, yc, rv sb, .val gva, .val gvb, .val gvc, .val gvd, rv sb, rv b68, iv (1 : Int32), .unset, .unset, .unset] [(.ref sb)])) rfl (by rw [hml]; rfl) [(.ref sb)] [] (lenOf own_pd_6 rfl) rfl rfl (hb hby at_284)
    obtain ⟨w90, rfl, Nc95, Kc94, hb91, f92, f93⟩ := hQ89
    refine own_goW st89 ?_
    clear st89 X86 Kc87
    replace N0 := Fr.app N0 Nc95
    clear Nc95
    have ne96 : b68 ≠ w90 := Nat.ne_of_lt (Nat.lt_of_lt_of_le f78.lt hb91)
    have big97 : Z.heap.size ≤ w90 := Nat.le_trans O0.1 hb91
    have sz98 : h0.size ≤ w90 := Nat.le_trans K0.1 hb91
    have sz99 : hs1.size ≤ w90 := Nat.le_trans K1.1 hb91
    replace hS := own_since hS Kc94.1
    replace hJ := own_Jkeep hZ hJ Kc94 all0
    replace f78 := f78.keep Kc94
    replace f79 := f79.keep Kc94 nin0
    replace f80 := f80.keep Kc94 nin0
    replace f81 := f81.keep Kc94 nin0
    replace f82 := f82.keep Kc94 nin0
    replace f83 := f83.keep Kc94 nin0
    replace O0 := own_oldKeep O0 Kc94 all0
    replace K0 := K0.trans Kc94 all0
    replace K1 := K1.trans Kc94 all0
    clear Kc94
    show own_GoW p e below s _ _ _ _ (T89.setTop (mkF m 287 #[iv p1, iv p2, iv p3, .val (.long q4), .second, .val (.long q5), .second, .val (.long q6), .second, iv ua, iv ub, iv uc, iv ud, iv ue, iv ul, ya, yb, yc, rv sb, .val gva, .val gvb, .val gvc, .val gvd, rv sb, rv b68, iv (1 : Int32), .unset, .unset, .unset] [(.ref w90)]))
    obtain ⟨v100, T100, L100, X100, hQ100, st100⟩ := own_callV (y := (⟨"com/example/countersign/countersign/server/Exchange", "succeeded", "()Z"⟩ : MethodName)) (z := (⟨"com/example/countersign/countersign/server/Exchange", "succeeded", "()Z"⟩ : MethodName)) X89 hx hZ hown (ow45 hw) (ow46 hw) (notFace_of_selects (args := #[]) (mvT hZ (ow48 hw))) (ow48 hw) (ow47 hw) (ow25 hw) (ow49 hw) (rm_succ1 l Z a0 hw oCS oCz oCa oBx [] w90 sb T89.heap O0 f93) 0 0 0 (by show _ ≤ 48; omega) (by show _ ≤ 1216; omega) (rfl : T89.heap = T89.heap) f92 (g := (mkF m 287 #[iv p1, iv p2, iv p3, .val (.long q4), .second, .val (.long q5), .second, .val (.long q6), .second, iv ua, iv ub, iv uc, iv ud, iv ue, iv ul, ya, yb, yc, rv sb, .val gva, .val gvb, .val gvc, .val gvd, rv sb, rv b68, iv (1 : Int32), .unset, .unset, .unset] [(.ref w90)])) rfl (by rw [hml]; rfl) [] [] (lenOf own_pd_5 rfl) rfl rfl (hb hby at_287)
    obtain ⟨rfl, Nc102, Kc101⟩ := hQ100
    refine own_goW st100 ?_
    clear st100 X89
    replace N0 := Fr.app N0 Nc102
    clear Nc102
    show own_GoW p e below s _ _ _ _ (T100.setTop (mkF m 290 #[iv p1, iv p2, iv p3, .val (.long q4), .second, .val (.long q5), .second, .val (.long q6), .second, iv ua, iv ub, iv uc, iv ud, iv ue, iv ul, ya, yb, yc, rv sb, .val gva, .val gvb, .val gvc, .val gvd, rv sb, rv b68, iv (1 : Int32), .unset, .unset, .unset] [(.int (0 : Int32))]))
    refine own_goW (fun _ k => XS.ifNo X100.here hx rfl (hb hby at_290) rfl ((if0 _ _).trans (teq (by decide : (0 : Int32) = (0 : Int32))).2) k) ?_
    show own_GoW p e below s _ _ _ _ (T100.setTop (mkF m 293 #[iv p1, iv p2, iv p3, .val (.long q4), .second, .val (.long q5), .second, .val (.long q6), .second, iv ua, iv ub, iv uc, iv ud, iv ue, iv ul, ya, yb, yc, rv sb, .val gva, .val gvb, .val gvc, .val gvd, rv sb, rv b68, iv (1 : Int32), .unset, .unset, .unset] []))
    refine own_goW (fun _ k => XS.iconst X100.here hx rfl (hb hby at_293) k) ?_
    show own_GoW p e below s _ _ _ _ (T100.setTop (mkF m 294 #[iv p1, iv p2, iv p3, .val (.long q4), .second, .val (.long q5), .second, .val (.long q6), .second, iv ua, iv ub, iv uc, iv ud, iv ue, iv ul, ya, yb, yc, rv sb, .val gva, .val gvb, .val gvc, .val gvd, rv sb, rv b68, iv (1 : Int32), .unset, .unset, .unset] [(.int (1 : Int32))]))
    refine own_goW (fun _ k => XS.goto X100.here hx rfl (pc0 := 294) (pc' := 298) rfl (hb hby at_294) (by decide) (by decide) k) ?_
    show own_GoW p e below s _ _ _ _ (T100.setTop (mkF m 298 #[iv p1, iv p2, iv p3, .val (.long q4), .second, .val (.long q5), .second, .val (.long q6), .second, iv ua, iv ub, iv uc, iv ud, iv ue, iv ul, ya, yb, yc, rv sb, .val gva, .val gvb, .val gvc, .val gvd, rv sb, rv b68, iv (1 : Int32), .unset, .unset, .unset] [(.int (1 : Int32))]))
    refine own_goW (fun _ k => XS.istore X100.here hx rfl (hb hby at_298) rfl (l' := #[iv p1, iv p2, iv p3, .val (.long q4), .second, .val (.long q5), .second, .val (.long q6), .second, iv ua, iv ub, iv uc, iv ud, iv ue, iv ul, ya, yb, yc, rv sb, .val gva, .val gvb, .val gvc, .val gvd, rv sb, rv b68, iv (1 : Int32), iv (1 : Int32), .unset, .unset]) rfl k) ?_
    show own_GoW p e below s _ _ _ _ (T100.setTop (mkF m 300 #[iv p1, iv p2, iv p3, .val (.long q4), .second, .val (.long q5), .second, .val (.long q6), .second, iv ua, iv ub, iv uc, iv ud, iv ue, iv ul, ya, yb, yc, rv sb, .val gva, .val gvb, .val gvc, .val gvd, rv sb, rv b68, iv (1 : Int32), iv (1 : Int32), .unset, .unset] []))
    refine own_goW (fun _ k => XS.aload X100.here hx rfl (hb hby at_300) rfl rfl k) ?_
    show own_GoW p e below s _ _ _ _ (T100.setTop (mkF m 302 #[iv p1, iv p2, iv p3, .val (.long q4), .second, .val (.long q5), .second, .val (.long q6), .second, iv ua, iv ub, iv uc, iv ud, iv ue, iv ul, ya, yb, yc, rv sb, .val gva, .val gvb, .val gvc, .val gvd, rv sb, rv b68, iv (1 : Int32), iv (1 : Int32), .unset, .unset] [(.ref sb)]))
    refine own_goW (fun _ k => XS.lloadN X100.here hx rfl (hb hby at_302) rfl k) ?_
    show own_GoW p e below s _ _ _ _ (T100.setTop (mkF m 303 #[iv p1, iv p2, iv p3, .val (.long q4), .second, .val (.long q5), .second, .val (.long q6), .second, iv ua, iv ub, iv uc, iv ud, iv ue, iv ul, ya, yb, yc, rv sb, .val gva, .val gvb, .val gvc, .val gvd, rv sb, rv b68, iv (1 : Int32), iv (1 : Int32), .unset, .unset] [(.long q4), (.ref sb)]))
    obtain ⟨v103, T103, L103, X103, hQ103, st103⟩ := own_callS (y := (⟨"com/example/countersign/countersign/server/Exchange", "lasting", "(Ljava/lang/String;J)Lcom/example/countersign/countersign/server/Exchange;"⟩ : MethodName)) X100 hx hZ hown (ow55 hw) (ow56 hw) (ow25 hw) (ow57 hw) (rm_lasting l Z a0 hw oCS oCz oCa oBx [] sb q4 T89.heap O0) 0 2 6 (by show _ ≤ 48; omega) (by show _ ≤ 1216; omega) Kc101 (g := (mkF m 303 #[iv p1, iv p2, iv p3, .val (.long q4), .second, .val (.long q5), .second, .val (.long q6), .second, iv ua, iv ub, iv uc, iv ud, iv ue, iv ul, ya, yb, yc, rv sb, .val gva, .val gvb, .val gvc, .val gvd, rv sb, rv b68, iv (1 : Int32), iv (1 : Int32), .unset, .unset] [(.long q4), (.ref sb)])) rfl (by rw [hml]; rfl) [(.ref sb), (.long q4)] [] (lenOf own_pd_7 rfl) rfl rfl (hb hby at_303)
    obtain ⟨w104, rfl, Nc109, Kc108, hb105, f106, f107⟩ := hQ103
    refine own_goW st103 ?_
    clear st103 X100 Kc101
    replace N0 := Fr.app N0 Nc109
    clear Nc109
    have ne110 : b68 ≠ w104 := Nat.ne_of_lt (Nat.lt_of_lt_of_le f78.lt hb105)
    have ne111 : w90 ≠ w104 := Nat.ne_of_lt (Nat.lt_of_lt_of_le f92.lt hb105)
    have big112 : Z.heap.size ≤ w104 := Nat.le_trans O0.1 hb105
    have sz113 : h0.size ≤ w104 := Nat.le_trans K0.1 hb105
    have sz114 : hs1.size ≤ w104 := Nat.le_trans K1.1 hb105
    replace hS := own_since hS Kc108.1
    replace hJ := own_Jkeep hZ hJ Kc108 all0
    replace f78 := f78.keep Kc108
    replace f79 := f79.keep Kc108 nin0
    replace f80 := f80.keep Kc108 nin0
    replace f81 := f81.keep Kc108 nin0
    replace f82 := f82.keep Kc108 nin0
    replace f83 := f83.keep Kc108 nin0
    replace f92 := f92.keep Kc108
    replace f93 := f93.keep Kc108 nin0
    replace O0 := own_oldKeep O0 Kc108 all0
    replace K0 := K0.trans Kc108 all0
    replace K1 := K1.trans Kc108 all0
    clear Kc108
    show own_GoW p e below s _ _ _ _ (T103.setTop (mkF m 306 #[iv p1, iv p2, iv p3, .val (.long q4), .second, .val (.long q5), .second, .val (.long q6), .second, iv ua, iv ub, iv uc, iv ud, iv ue, iv ul, ya, yb, yc, rv sb, .val gva, .val gvb, .val gvc, .val gvd, rv sb, rv b68, iv (1 : Int32), iv (1 : Int32), .unset, .unset] [(.ref w104)]))
    obtain ⟨v115, T115, L115, X115, hQ115, st115⟩ := own_callV (y := (⟨"com/example/countersign/countersign/server/Exchange", "succeeded", "()Z"⟩ : MethodName)) (z := (⟨"com/example/countersign/countersign/server/Exchange", "succeeded", "()Z"⟩ : MethodName)) X103 hx hZ hown (ow45 hw) (ow46 hw) (notFace_of_selects (args := #[]) (mvT hZ (ow48 hw))) (ow48 hw) (ow47 hw) (ow25 hw) (ow49 hw) (rm_succ0 l Z a0 hw oCS oCz oCa oBx [] w104 T103.heap O0 f107) 0 0 0 (by show _ ≤ 48; omega) (by show _ ≤ 1216; omega) (rfl : T103.heap = T103.heap) f106 (g := (mkF m 306 #[iv p1, iv p2, iv p3, .val (.long q4), .second, .val (.long q5), .second, .val (.long q6), .second, iv ua, iv ub, iv uc, iv ud, iv ue, iv ul, ya, yb, yc, rv sb, .val gva, .val gvb, .val gvc, .val gvd, rv sb, rv b68, iv (1 : Int32), iv (1 : Int32), .unset, .unset] [(.ref w104)])) rfl (by rw [hml]; rfl) [] [] (lenOf own_pd_5 rfl) rfl rfl (hb hby at_306)
    obtain ⟨rfl, Nc117, Kc116⟩ := hQ115
    refine own_goW st115 ?_
    clear st115 X103
    replace N0 := Fr.app N0 Nc117
    clear Nc117
    show own_GoW p e below s _ _ _ _ (T115.setTop (mkF m 309 #[iv p1, iv p2, iv p3, .val (.long q4), .second, .val (.long q5), .second, .val (.long q6), .second, iv ua, iv ub, iv uc, iv ud, iv ue, iv ul, ya, yb, yc, rv sb, .val gva, .val gvb, .val gvc, .val gvd, rv sb, rv b68, iv (1 : Int32), iv (1 : Int32), .unset, .unset] [(.int (1 : Int32))]))
    refine own_goW (fun _ k => XS.istore X115.here hx rfl (hb hby at_309) rfl (l' := #[iv p1, iv p2, iv p3, .val (.long q4), .second, .val (.long q5), .second, .val (.long q6), .second, iv ua, iv ub, iv uc, iv ud, iv ue, iv ul, ya, yb, yc, rv sb, .val gva, .val gvb, .val gvc, .val gvd, rv sb, rv b68, iv (1 : Int32), iv (1 : Int32), iv (1 : Int32), .unset]) rfl k) ?_
    show own_GoW p e below s _ _ _ _ (T115.setTop (mkF m 311 #[iv p1, iv p2, iv p3, .val (.long q4), .second, .val (.long q5), .second, .val (.long q6), .second, iv ua, iv ub, iv uc, iv ud, iv ue, iv ul, ya, yb, yc, rv sb, .val gva, .val gvb, .val gvc, .val gvd, rv sb, rv b68, iv (1 : Int32), iv (1 : Int32), iv (1 : Int32), .unset] []))
    refine own_goW (fun _ k => XS.aload X115.here hx rfl (hb hby at_311) rfl rfl k) ?_
    show own_GoW p e below s _ _ _ _ (T115.setTop (mkF m 313 #[iv p1, iv p2, iv p3, .val (.long q4), .second, .val (.long q5), .second, .val (.long q6), .second, iv ua, iv ub, iv uc, iv ud, iv ue, iv ul, ya, yb, yc, rv sb, .val gva, .val gvb, .val gvc, .val gvd, rv sb, rv b68, iv (1 : Int32), iv (1 : Int32), iv (1 : Int32), .unset] [(.ref sb)]))
    refine own_goW (fun _ k => XS.lloadN X115.here hx rfl (hb hby at_313) rfl k) ?_
    show own_GoW p e below s _ _ _ _ (T115.setTop (mkF m 314 #[iv p1, iv p2, iv p3, .val (.long q4), .second, .val (.long q5), .second, .val (.long q6), .second, iv ua, iv ub, iv uc, iv ud, iv ue, iv ul, ya, yb, yc, rv sb, .val gva, .val gvb, .val gvc, .val gvd, rv sb, rv b68, iv (1 : Int32), iv (1 : Int32), iv (1 : Int32), .unset] [(.long q4), (.ref sb)]))
    refine own_goW (fun _ k => XS.lload X115.here hx rfl (hb hby at_314) rfl k) ?_
    show own_GoW p e below s _ _ _ _ (T115.setTop (mkF m 316 #[iv p1, iv p2, iv p3, .val (.long q4), .second, .val (.long q5), .second, .val (.long q6), .second, iv ua, iv ub, iv uc, iv ud, iv ue, iv ul, ya, yb, yc, rv sb, .val gva, .val gvb, .val gvc, .val gvd, rv sb, rv b68, iv (1 : Int32), iv (1 : Int32), iv (1 : Int32), .unset] [(.long q5), (.long q4), (.ref sb)]))
    refine own_goW (fun _ k => XS.lload X115.here hx rfl (hb hby at_316) rfl k) ?_
    show own_GoW p e below s _ _ _ _ (T115.setTop (mkF m 318 #[iv p1, iv p2, iv p3, .val (.long q4), .second, .val (.long q5), .second, .val (.long q6), .second, iv ua, iv ub, iv uc, iv ud, iv ue, iv ul, ya, yb, yc, rv sb, .val gva, .val gvb, .val gvc, .val gvd, rv sb, rv b68, iv (1 : Int32), iv (1 : Int32), iv (1 : Int32), .unset] [(.long q6), (.long q5), (.long q4), (.ref sb)]))
    obtain ⟨v118, T118, L118, X118, hQ118, st118⟩ := own_callS (y := (⟨"com/example/countersign/countersign/server/Exchange", "expiring", "(Ljava/lang/String;JJJ)Lcom/example/countersign/countersign/server/Exchange;"⟩ : MethodName)) X115 hx hZ hown (ow78 hw) (ow79 hw) (ow25 hw) (ow80 hw) (rm_expiring l Z a0 hw oCS oCz oCa oBx [] sb q4 q5 q6 T103.heap O0) 0 4 8 (by show _ ≤ 48; omega) (by show _ ≤ 1216; omega) Kc116 (g := (mkF m 318 #[iv p1, iv p2, iv p3, .val (.long q4), .second, .val (.long q5), .second, .val (.long q6), .second, iv ua, iv ub, iv uc, iv ud, iv ue, iv ul, ya, yb, yc, rv sb, .val gva, .val gvb, .val gvc, .val gvd, rv sb, rv b68, iv (1 : Int32), iv (1 : Int32), iv (1 : Int32), .unset] [(.long q6), (.long q5), (.long q4), (.ref sb)])) rfl (by rw [hml]; rfl) [(.ref sb), (.long q4), (.long q5), (.long q6)] [] (lenOf own_pd_8 rfl) rfl rfl (hb hby at_318)
    obtain ⟨w119, rfl, Nc124, Kc123, hb120, f121, f122⟩ := hQ118
    refine own_goW st118 ?_
    clear st118 X115 Kc116
    replace N0 := Fr.app N0 Nc124
    clear Nc124
    have ne125 : b68 ≠ w119 := Nat.ne_of_lt (Nat.lt_of_lt_of_le f78.lt hb120)
    have ne126 : w90 ≠ w119 := Nat.ne_of_lt (Nat.lt_of_lt_of_le f92.lt hb120)
    have ne127 : w104 ≠ w119 := Nat.ne_of_lt (Nat.lt_of_lt_of_le f106.lt hb120)
    have big128 : Z.heap.size ≤ w119 := Nat.le_trans O0.1 hb120
    have sz129 : h0.size ≤ w119 := Nat.le_trans K0.1 hb120
    have sz130 : hs1.size ≤ w119 := Nat.le_trans K1.1 hb120
    replace hS := own_since hS Kc123.1
    replace hJ := own_Jkeep hZ hJ Kc123 all0
    replace f78 := f78.keep Kc123
    replace f79 := f79.keep Kc123 nin0
    replace f80 := f80.keep Kc123 nin0
    replace f81 := f81.keep Kc123 nin0
    replace f82 := f82.keep Kc123 nin0
    replace f83 := f83.keep Kc123 nin0
    replace f92 := f92.keep Kc123
    replace f93 := f93.keep Kc123 nin0
    replace f106 := f106.keep Kc123
    replace f107 := f107.keep Kc123 nin0
    replace O0 := own_oldKeep O0 Kc123 all0
    replace K0 := K0.trans Kc123 all0
    replace K1 := K1.trans Kc123 all0
    clear Kc123
    show own_GoW p e below s _ _ _ _ (T118.setTop (mkF m 321 #[iv p1, iv p2, iv p3, .val (.long q4), .second, .val (.long q5), .second, .val (.long q6), .second, iv ua, iv ub, iv uc, iv ud, iv ue, iv ul, ya, yb, yc, rv sb, .val gva, .val gvb, .val gvc, .val gvd, rv sb, rv b68, iv (1 : Int32), iv (1 : Int32), iv (1 : Int32), .unset] [(.ref w119)]))
    obtain ⟨v131, T131, L131, X131, hQ131, st131⟩ := own_callV (y := (⟨"com/example/countersign/countersign/server/Exchange", "succeeded", "()Z"⟩ : MethodName)) (z := (⟨"com/example/countersign/countersign/server/Exchange", "succeeded", "()Z"⟩ : MethodName)) X118 hx hZ hown (ow45 hw) (ow46 hw) (notFace_of_selects (args := #[]) (mvT hZ (ow48 hw))) (ow48 hw) (ow47 hw) (ow25 hw) (ow49 hw) (rm_succ0 l Z a0 hw oCS oCz oCa oBx [] w119 T118.heap O0 f122) 0 0 0 (by show _ ≤ 48; omega) (by show _ ≤ 1216; omega) (rfl : T118.heap = T118.heap) f121 (g := (mkF m 321 #[iv p1, iv p2, iv p3, .val (.long q4), .second, .val (.long q5), .second, .val (.long q6), .second, iv ua, iv ub, iv uc, iv ud, iv ue, iv ul, ya, yb, yc, rv sb, .val gva, .val gvb, .val gvc, .val gvd, rv sb, rv b68, iv (1 : Int32), iv (1 : Int32), iv (1 : Int32), .unset] [(.ref w119)])) rfl (by rw [hml]; rfl) [] [] (lenOf own_pd_5 rfl) rfl rfl (hb hby at_321)
    obtain ⟨rfl, Nc133, Kc132⟩ := hQ131
    refine own_goW st131 ?_
    clear st131 X118
    replace N0 := Fr.app N0 Nc133
    clear Nc133
    show own_GoW p e below s _ _ _ _ (T131.setTop (mkF m 324 #[iv p1, iv p2, iv p3, .val (.long q4), .second, .val (.long q5), .second, .val (.long q6), .second, iv ua, iv ub, iv uc, iv ud, iv ue, iv ul, ya, yb, yc, rv sb, .val gva, .val gvb, .val gvc, .val gvd, rv sb, rv b68, iv (1 : Int32), iv (1 : Int32), iv (1 : Int32), .unset] [(.int (1 : Int32))]))
    refine own_goW (fun _ k => XS.istore X131.here hx rfl (hb hby at_324) rfl (l' := #[iv p1, iv p2, iv p3, .val (.long q4), .second, .val (.long q5), .second, .val (.long q6), .second, iv ua, iv ub, iv uc, iv ud, iv ue, iv ul, ya, yb, yc, rv sb, .val gva, .val gvb, .val gvc, .val gvd, rv sb, rv b68, iv (1 : Int32), iv (1 : Int32), iv (1 : Int32), iv (1 : Int32)]) rfl k) ?_
    show own_GoW p e below s _ _ _ _ (T131.setTop (mkF m 326 #[iv p1, iv p2, iv p3, .val (.long q4), .second, .val (.long q5), .second, .val (.long q6), .second, iv ua, iv ub, iv uc, iv ud, iv ue, iv ul, ya, yb, yc, rv sb, .val gva, .val gvb, .val gvc, .val gvd, rv sb, rv b68, iv (1 : Int32), iv (1 : Int32), iv (1 : Int32), iv (1 : Int32)] []))
    refine own_goW (fun _ k => XS.iload X131.here hx rfl (hb hby at_326) rfl k) ?_
    show own_GoW p e below s _ _ _ _ (T131.setTop (mkF m 328 #[iv p1, iv p2, iv p3, .val (.long q4), .second, .val (.long q5), .second, .val (.long q6), .second, iv ua, iv ub, iv uc, iv ud, iv ue, iv ul, ya, yb, yc, rv sb, .val gva, .val gvb, .val gvc, .val gvd, rv sb, rv b68, iv (1 : Int32), iv (1 : Int32), iv (1 : Int32), iv (1 : Int32)] [(.int (1 : Int32))]))
    refine own_goW (fun _ k => XS.ifNo X131.here hx rfl (hb hby at_328) rfl ((if0 _ _).trans (feq (by decide : ¬ ((1 : Int32) = (0 : Int32)))).1) k) ?_
    show own_GoW p e below s _ _ _ _ (T131.setTop (mkF m 331 #[iv p1, iv p2, iv p3, .val (.long q4), .second, .val (.long q5), .second, .val (.long q6), .second, iv ua, iv ub, iv uc, iv ud, iv ue, iv ul, ya, yb, yc, rv sb, .val gva, .val gvb, .val gvc, .val gvd, rv sb, rv b68, iv (1 : Int32), iv (1 : Int32), iv (1 : Int32), iv (1 : Int32)] []))
    refine own_goW (fun _ k => XS.iload X131.here hx rfl (hb hby at_331) rfl k) ?_
    show own_GoW p e below s _ _ _ _ (T131.setTop (mkF m 333 #[iv p1, iv p2, iv p3, .val (.long q4), .second, .val (.long q5), .second, .val (.long q6), .second, iv ua, iv ub, iv uc, iv ud, iv ue, iv ul, ya, yb, yc, rv sb, .val gva, .val gvb, .val gvc, .val gvd, rv sb, rv b68, iv (1 : Int32), iv (1 : Int32), iv (1 : Int32), iv (1 : Int32)] [(.int (1 : Int32))]))
    refine own_goW (fun _ k => XS.ifNo X131.here hx rfl (hb hby at_333) rfl ((if0 _ _).trans (feq (by decide : ¬ ((1 : Int32) = (0 : Int32)))).1) k) ?_
    show own_GoW p e below s _ _ _ _ (T131.setTop (mkF m 336 #[iv p1, iv p2, iv p3, .val (.long q4), .second, .val (.long q5), .second, .val (.long q6), .second, iv ua, iv ub, iv uc, iv ud, iv ue, iv ul, ya, yb, yc, rv sb, .val gva, .val gvb, .val gvc, .val gvd, rv sb, rv b68, iv (1 : Int32), iv (1 : Int32), iv (1 : Int32), iv (1 : Int32)] []))
    refine own_goW (fun _ k => XS.iload X131.here hx rfl (hb hby at_336) rfl k) ?_
    show own_GoW p e below s _ _ _ _ (T131.setTop (mkF m 338 #[iv p1, iv p2, iv p3, .val (.long q4), .second, .val (.long q5), .second, .val (.long q6), .second, iv ua, iv ub, iv uc, iv ud, iv ue, iv ul, ya, yb, yc, rv sb, .val gva, .val gvb, .val gvc, .val gvd, rv sb, rv b68, iv (1 : Int32), iv (1 : Int32), iv (1 : Int32), iv (1 : Int32)] [(.int (1 : Int32))]))
    refine own_goW (fun _ k => XS.ifNo X131.here hx rfl (hb hby at_338) rfl ((if0 _ _).trans (feq (by decide : ¬ ((1 : Int32) = (0 : Int32)))).1) k) ?_
    show own_GoW p e below s _ _ _ _ (T131.setTop (mkF m 341 #[iv p1, iv p2, iv p3, .val (.long q4), .second, .val (.long q5), .second, .val (.long q6), .second, iv ua, iv ub, iv uc, iv ud, iv ue, iv ul, ya, yb, yc, rv sb, .val gva, .val gvb, .val gvc, .val gvd, rv sb, rv b68, iv (1 : Int32), iv (1 : Int32), iv (1 : Int32), iv (1 : Int32)] []))
    refine own_goW (fun _ k => XS.iload X131.here hx rfl (hb hby at_341) rfl k) ?_
    show own_GoW p e below s _ _ _ _ (T131.setTop (mkF m 343 #[iv p1, iv p2, iv p3, .val (.long q4), .second, .val (.long q5), .second, .val (.long q6), .second, iv ua, iv ub, iv uc, iv ud, iv ue, iv ul, ya, yb, yc, rv sb, .val gva, .val gvb, .val gvc, .val gvd, rv sb, rv b68, iv (1 : Int32), iv (1 : Int32), iv (1 : Int32), iv (1 : Int32)] [(.int (1 : Int32))]))
    refine own_goW (fun _ k => XS.ifNo X131.here hx rfl (hb hby at_343) rfl ((if0 _ _).trans (feq (by decide : ¬ ((1 : Int32) = (0 : Int32)))).1) k) ?_
    show own_GoW p e below s _ _ _ _ (T131.setTop (mkF m 346 #[iv p1, iv p2, iv p3, .val (.long q4), .second, .val (.long q5), .second, .val (.long q6), .second, iv ua, iv ub, iv uc, iv ud, iv ue, iv ul, ya, yb, yc, rv sb, .val gva, .val gvb, .val gvc, .val gvd, rv sb, rv b68, iv (1 : Int32), iv (1 : Int32), iv (1 : Int32), iv (1 : Int32)] []))
    refine own_goW (fun _ k => XS.iconst X131.here hx rfl (hb hby at_346) k) ?_
    show own_GoW p e below s _ _ _ _ (T131.setTop (mkF m 347 #[iv p1, iv p2, iv p3, .val (.long q4), .second, .val (.long q5), .second, .val (.long q6), .second, iv ua, iv ub, iv uc, iv ud, iv ue, iv ul, ya, yb, yc, rv sb, .val gva, .val gvb, .val gvc, .val gvd, rv sb, rv b68, iv (1 : Int32), iv (1 : Int32), iv (1 : Int32), iv (1 : Int32)] [(.int (1 : Int32))]))
    refine own_goW (fun _ k => XS.goto X131.here hx rfl (pc0 := 347) (pc' := 351) rfl (hb hby at_347) (by decide) (by decide) k) ?_
    show own_GoW p e below s _ _ _ _ (T131.setTop (mkF m 351 #[iv p1, iv p2, iv p3, .val (.long q4), .second, .val (.long q5), .second, .val (.long q6), .second, iv ua, iv ub, iv uc, iv ud, iv ue, iv ul, ya, yb, yc, rv sb, .val gva, .val gvb, .val gvc, .val gvd, rv sb, rv b68, iv (1 : Int32), iv (1 : Int32), iv (1 : Int32), iv (1 : Int32)] [(.int (1 : Int32))]))
    refine own_retNW X131 hS hL hZ hJ hx hlk Kc132 (t := .boolean) hret (by simp) (hb hby at_351) (by show _ ≤ 48; omega) (by show _ ≤ 1216; omega) ?_
    exact ⟨rfl, N0, K0⟩
set_option maxRecDepth 65536 in
set_option maxHeartbeats 40000000 in
theorem sg_s209 {l : Launch} {Z : State} {a0 : Array Value} (hw : ∀ d ∈ tables_1, d.before a0 Z = true) {zc : Int32} {wc : Addr} {clc : Cell} (oCS : Sta Z Z.heap "java/lang/String" "COMPACT_STRINGS" "Z" (.int zc)) (oCz : ¬ zc = (0 : Int32)) (oCa : Sta Z Z.heap "java/lang/Long$LongCache" "cache" "[Ljava/lang/Long;" (.ref wc)) (oBx : Bxs Z wc clc "java/lang/Long" "J" (256 : Int32) own_bxv) {p : Program} {e : Env} {s : State} {vm0 : Vm} {m : MethodId} {args : Array Value} {below : List Frame} {meth : Method} {c : Code} {T : State} {locs : List Loc} {cells slots : Nat} (p1 : Int32) (p2 : Int32) (p3 : Int32) (q4 : Int64) (q5 : Int64) (q6 : Int64) (ua : Int32) (ub : Int32) (uc : Int32) (ud : Int32) (ue : Int32) (ul : Int32) (ya : Slot) (yb : Slot) (yc : Slot) (sb : Addr) (gva : Value) (gvb : Value) (gvc : Value) (h0 hs1 : Heap)
    (X0 : Stand p l e room_1 (s.setVm vm0) m args below meth c T locs cells slots) (hS : s.Since vm0 hs1.size) (hL : own_L Z a0) (hJ : own_J Z vm0 hs1) (hx : p.tables.exec = Jvm.exec) (hby : c.code = code) (hml : c.maxLocals = 29) (hret : meth.sig.returnType = some .boolean) (hlk : meth.locks = false) (hZ : Z.Warmed39 (s.setVm vm0).vm) (hown : (s.setVm vm0).vm.findClass "com/example/countersign/countersign/server/ExchangeSucceededPinLaw" = some m.cls) (hnm : meth.name = "law") (e0 : T.heap = hs1) (N0 : Fr Z.heap.size locs) (O0 : Ext Z.heap hs1) (K0 : Keep h0 hs1 []) (r_gva : gva.isRef = true) (r_gvb : gvb.isRef = true) (r_gvc : gvc.isRef = true) (fp0 : Exa Z hs1 sb "java/lang/String") (hcells : cells ≤ 24) (hslots : slots ≤ 120) :
    own_GoW p e below s Z (Q_law Z zc wc clc p1 p2 p3 q4 q5 q6 h0) room_1.cells room_1.slots (T.setTop (mkF m 209 #[iv p1, iv p2, iv p3, .val (.long q4), .second, .val (.long q5), .second, .val (.long q6), .second, iv ua, iv ub, iv uc, iv ud, iv ue, iv ul, ya, yb, yc, rv sb, .val gva, .val gvb, .val gvc, .unset, .unset, .unset, .unset, .unset, .unset, .unset] [])) := by
  have K1 := Keep.refl hs1 []
  show own_GoW p e below s _ _ _ _ (T.setTop (mkF m 209 #[iv p1, iv p2, iv p3, .val (.long q4), .second, .val (.long q5), .second, .val (.long q6), .second, iv ua, iv ub, iv uc, iv ud, iv ue, iv ul, ya, yb, yc, rv sb, .val gva, .val gvb, .val gvc, .unset, .unset, .unset, .unset, .unset, .unset, .unset] []))
  refine own_goW (fun _ k => XS.iload X0.here hx rfl (hb hby at_209) rfl k) ?_
  show own_GoW p e below s _ _ _ _ (T.setTop (mkF m 211 #[iv p1, iv p2, iv p3, .val (.long q4), .second, .val (.long q5), .second, .val (.long q6), .second, iv ua, iv ub, iv uc, iv ud, iv ue, iv ul, ya, yb, yc, rv sb, .val gva, .val gvb, .val gvc, .unset, .unset, .unset, .unset, .unset, .unset, .unset] [(.int ud)]))
  by_cases hc134 : ud = (0 : Int32)
  · refine own_goW (fun _ k => XS.ifYes X0.here hx rfl (pc0 := 211) (pc' := 222) rfl (hb hby at_211) rfl ((if0 _ _).trans (teq hc134).1) (by decide) (by decide) k) ?_
    show own_GoW p e below s _ _ _ _ (T.setTop (mkF m 222 #[iv p1, iv p2, iv p3, .val (.long q4), .second, .val (.long q5), .second, .val (.long q6), .second, iv ua, iv ub, iv uc, iv ud, iv ue, iv ul, ya, yb, yc, rv sb, .val gva, .val gvb, .val gvc, .unset, .unset, .unset, .unset, .unset, .unset, .unset] []))
    refine own_goW (fun _ k => XS.aconstNull X0.here hx rfl (hb hby at_222) k) ?_
    show own_GoW p e below s _ _ _ _ (T.setTop (mkF m 223 #[iv p1, iv p2, iv p3, .val (.long q4), .second, .val (.long q5), .second, .val (.long q6), .second, iv ua, iv ub, iv uc, iv ud, iv ue, iv ul, ya, yb, yc, rv sb, .val gva, .val gvb, .val gvc, .unset, .unset, .unset, .unset, .unset, .unset, .unset] [.null]))
    refine own_goW (fun _ k => XS.astore X0.here hx rfl (hb hby at_223) rfl rfl (l' := #[iv p1, iv p2, iv p3, .val (.long q4), .second, .val (.long q5), .second, .val (.long q6), .second, iv ua, iv ub, iv uc, iv ud, iv ue, iv ul, ya, yb, yc, rv sb, .val gva, .val gvb, .val gvc, .val .null, .unset, .unset, .unset, .unset, .unset, .unset]) rfl k) ?_
    show own_GoW p e below s _ _ _ _ (T.setTop (mkF m 225 #[iv p1, iv p2, iv p3, .val (.long q4), .second, .val (.long q5), .second, .val (.long q6), .second, iv ua, iv ub, iv uc, iv ud, iv ue, iv ul, ya, yb, yc, rv sb, .val gva, .val gvb, .val gvc, .val .null, .unset, .unset, .unset, .unset, .unset, .unset] []))
    exact sg_s225 hw oCS oCz oCa oBx p1 p2 p3 q4 q5 q6 ua ub uc ud ue ul (ya : Slot) (yb : Slot) (yc : Slot) sb gva gvb gvc .null h0 hs1 X0 hS hL hJ hx hby hml hret hlk hZ hown hnm e0 N0 O0 K0 r_gva r_gvb r_gvc (rfl : (.null : Value).isRef = true) (fp0.keep K1) (by omega) (by omega)
  · refine own_goW (fun _ k => XS.ifNo X0.here hx rfl (hb hby at_211) rfl ((if0 _ _).trans (feq hc134).1) k) ?_
    show own_GoW p e below s _ _ _ _ (T.setTop (mkF m 214 #[iv p1, iv p2, iv p3, .val (.long q4), .second, .val (.long q5), .second, .val (.long q6), .second, iv ua, iv ub, iv uc, iv ud, iv ue, iv ul, ya, yb, yc, rv sb, .val gva, .val gvb, .val gvc, .unset, .unset, .unset, .unset, .unset, .unset, .unset] []))
    refine own_goW (fun _ k => XS.lload X0.here hx rfl (hb hby at_214) rfl k) ?_
    show own_GoW p e below s _ _ _ _ (T.setTop (mkF m 216 #[iv p1, iv p2, iv p3, .val (.long q4), .second, .val (.long q5), .second, .val (.long q6), .second, iv ua, iv ub, iv uc, iv ud, iv ue, iv ul, ya, yb, yc, rv sb, .val gva, .val gvb, .val gvc, .unset, .unset, .unset, .unset, .unset, .unset, .unset] [(.long q6)]))
    obtain ⟨v135, T135, L135, X135, hQ135, st135⟩ := own_callS (y := (⟨"java/lang/Long", "valueOf", "(J)Ljava/lang/Long;"⟩ : MethodName)) X0 hx hZ hown (ow84 hw) (ow59 hw) (ow60 hw) (ow61 hw) (rm_valueOf l Z a0 hw oCS oCz oCa oBx [] q6 hs1 O0) 0 1 1 (by show _ ≤ 48; omega) (by show _ ≤ 1216; omega) e0 (g := (mkF m 216 #[iv p1, iv p2, iv p3, .val (.long q4), .second, .val (.long q5), .second, .val (.long q6), .second, iv ua, iv ub, iv uc, iv ud, iv ue, iv ul, ya, yb, yc, rv sb, .val gva, .val gvb, .val gvc, .unset, .unset, .unset, .unset, .unset, .unset, .unset] [(.long q6)])) rfl (by rw [hml]; rfl) [(.long q6)] [] (lenOf own_pd_4 rfl) rfl rfl (hb hby at_216)
    obtain ⟨w136, rfl, Nc140, Kc139, f137, f138⟩ := hQ135
    refine own_goW st135 ?_
    clear st135 X0 e0
    replace N0 := Fr.app N0 Nc140
    clear Nc140
    replace hS := own_since hS Kc139.1
    replace hJ := own_Jkeep hZ hJ Kc139 all0
    replace O0 := own_oldKeep O0 Kc139 all0
    replace K0 := K0.trans Kc139 all0
    replace K1 := K1.trans Kc139 all0
    clear Kc139
    show own_GoW p e below s _ _ _ _ (T135.setTop (mkF m 219 #[iv p1, iv p2, iv p3, .val (.long q4), .second, .val (.long q5), .second, .val (.long q6), .second, iv ua, iv ub, iv uc, iv ud, iv ue, iv ul, ya, yb, yc, rv sb, .val gva, .val gvb, .val gvc, .unset, .unset, .unset, .unset, .unset, .unset, .unset] [(.ref w136)]))
    refine own_goW (fun _ k => XS.goto X135.here hx rfl (pc0 := 219) (pc' := 223) rfl (hb hby at_219) (by decide) (by decide) k) ?_
    show own_GoW p e below s _ _ _ _ (T135.setTop (mkF m 223 #[iv p1, iv p2, iv p3, .val (.long q4), .second, .val (.long q5), .second, .val (.long q6), .second, iv ua, iv ub, iv uc, iv ud, iv ue, iv ul, ya, yb, yc, rv sb, .val gva, .val gvb, .val gvc, .unset, .unset, .unset, .unset, .unset, .unset, .unset] [(.ref w136)]))
    refine own_goW (fun _ k => XS.astore X135.here hx rfl (hb hby at_223) rfl rfl (l' := #[iv p1, iv p2, iv p3, .val (.long q4), .second, .val (.long q5), .second, .val (.long q6), .second, iv ua, iv ub, iv uc, iv ud, iv ue, iv ul, ya, yb, yc, rv sb, .val gva, .val gvb, .val gvc, rv w136, .unset, .unset, .unset, .unset, .unset, .unset]) rfl k) ?_
    show own_GoW p e below s _ _ _ _ (T135.setTop (mkF m 225 #[iv p1, iv p2, iv p3, .val (.long q4), .second, .val (.long q5), .second, .val (.long q6), .second, iv ua, iv ub, iv uc, iv ud, iv ue, iv ul, ya, yb, yc, rv sb, .val gva, .val gvb, .val gvc, rv w136, .unset, .unset, .unset, .unset, .unset, .unset] []))
    exact sg_s225 hw oCS oCz oCa oBx p1 p2 p3 q4 q5 q6 ua ub uc ud ue ul (ya : Slot) (yb : Slot) (yc : Slot) sb gva gvb gvc (.ref w136) h0 T135.heap X135 hS hL hJ hx hby hml hret hlk hZ hown hnm (rfl : T135.heap = T135.heap) N0 O0 K0 r_gva r_gvb r_gvc (rfl : ((.ref w136) : Value).isRef = true) (fp0.keep K1) (by omega) (by omega)
set_option maxRecDepth 65536 in
set_option maxHeartbeats 40000000 in
theorem sg_s193 {l : Launch} {Z : State} {a0 : Array Value} (hw : ∀ d ∈ tables_1, d.before a0 Z = true) {zc : Int32} {wc : Addr} {clc : Cell} (oCS : Sta Z Z.heap "java/lang/String" "COMPACT_STRINGS" "Z" (.int zc)) (oCz : ¬ zc = (0 : Int32)) (oCa : Sta Z Z.heap "java/lang/Long$LongCache" "cache" "[Ljava/lang/Long;" (.ref wc)) (oBx : Bxs Z wc clc "java/lang/Long" "J" (256 : Int32) own_bxv) {p : Program} {e : Env} {s : State} {vm0 : Vm} {m : MethodId} {args : Array Value} {below : List Frame} {meth : Method} {c : Code} {T : State} {locs : List Loc} {cells slots : Nat} (p1 : Int32) (p2 : Int32) (p3 : Int32) (q4 : Int64) (q5 : Int64) (q6 : Int64) (ua : Int32) (ub : Int32) (uc : Int32) (ud : Int32) (ue : Int32) (ul : Int32) (ya : Slot) (yb : Slot) (yc : Slot) (sb : Addr) (gva : Value) (gvb : Value) (h0 hs1 : Heap)
    (X0 : Stand p l e room_1 (s.setVm vm0) m args below meth c T locs cells slots) (hS : s.Since vm0 hs1.size) (hL : own_L Z a0) (hJ : own_J Z vm0 hs1) (hx : p.tables.exec = Jvm.exec) (hby : c.code = code) (hml : c.maxLocals = 29) (hret : meth.sig.returnType = some .boolean) (hlk : meth.locks = false) (hZ : Z.Warmed39 (s.setVm vm0).vm) (hown : (s.setVm vm0).vm.findClass "com/example/countersign/countersign/server/ExchangeSucceededPinLaw" = some m.cls) (hnm : meth.name = "law") (e0 : T.heap = hs1) (N0 : Fr Z.heap.size locs) (O0 : Ext Z.heap hs1) (K0 : Keep h0 hs1 []) (r_gva : gva.isRef = true) (r_gvb : gvb.isRef = true) (fp0 : Exa Z hs1 sb "java/lang/String") (hcells : cells ≤ 22) (hslots : slots ≤ 110) :
    own_GoW p e below s Z (Q_law Z zc wc clc p1 p2 p3 q4 q5 q6 h0) room_1.cells room_1.slots (T.setTop (mkF m 193 #[iv p1, iv p2, iv p3, .val (.long q4), .second, .val (.long q5), .second, .val (.long q6), .second, iv ua, iv ub, iv uc, iv ud, iv ue, iv ul, ya, yb, yc, rv sb, .val gva, .val gvb, .unset, .unset, .unset, .unset, .unset, .unset, .unset, .unset] [])) := by
  have K1 := Keep.refl hs1 []
  show own_GoW p e below s _ _ _ _ (T.setTop (mkF m 193 #[iv p1, iv p2, iv p3, .val (.long q4), .second, .val (.long q5), .second, .val (.long q6), .second, iv ua, iv ub, iv uc, iv ud, iv ue, iv ul, ya, yb, yc, rv sb, .val gva, .val gvb, .unset, .unset, .unset, .unset, .unset, .unset, .unset, .unset] []))
  refine own_goW (fun _ k => XS.iload X0.here hx rfl (hb hby at_193) rfl k) ?_
  show own_GoW p e below s _ _ _ _ (T.setTop (mkF m 195 #[iv p1, iv p2, iv p3, .val (.long q4), .second, .val (.long q5), .second, .val (.long q6), .second, iv ua, iv ub, iv uc, iv ud, iv ue, iv ul, ya, yb, yc, rv sb, .val gva, .val gvb, .unset, .unset, .unset, .unset, .unset, .unset, .unset, .unset] [(.int uc)]))
  by_cases hc141 : uc = (0 : Int32)
  · refine own_goW (fun _ k => XS.ifYes X0.here hx rfl (pc0 := 195) (pc' := 206) rfl (hb hby at_195) rfl ((if0 _ _).trans (teq hc141).1) (by decide) (by decide) k) ?_
    show own_GoW p e below s _ _ _ _ (T.setTop (mkF m 206 #[iv p1, iv p2, iv p3, .val (.long q4), .second, .val (.long q5), .second, .val (.long q6), .second, iv ua, iv ub, iv uc, iv ud, iv ue, iv ul, ya, yb, yc, rv sb, .val gva, .val gvb, .unset, .unset, .unset, .unset, .unset, .unset, .unset, .unset] []))
    refine own_goW (fun _ k => XS.aconstNull X0.here hx rfl (hb hby at_206) k) ?_
    show own_GoW p e below s _ _ _ _ (T.setTop (mkF m 207 #[iv p1, iv p2, iv p3, .val (.long q4), .second, .val (.long q5), .second, .val (.long q6), .second, iv ua, iv ub, iv uc, iv ud, iv ue, iv ul, ya, yb, yc, rv sb, .val gva, .val gvb, .unset, .unset, .unset, .unset, .unset, .unset, .unset, .unset] [.null]))
    refine own_goW (fun _ k => XS.astore X0.here hx rfl (hb hby at_207) rfl rfl (l' := #[iv p1, iv p2, iv p3, .val (.long q4), .second, .val (.long q5), .second, .val (.long q6), .second, iv ua, iv ub, iv uc, iv ud, iv ue, iv ul, ya, yb, yc, rv sb, .val gva, .val gvb, .val .null, .unset, .unset, .unset, .unset, .unset, .unset, .unset]) rfl k) ?_
    show own_GoW p e below s _ _ _ _ (T.setTop (mkF m 209 #[iv p1, iv p2, iv p3, .val (.long q4), .second, .val (.long q5), .second, .val (.long q6), .second, iv ua, iv ub, iv uc, iv ud, iv ue, iv ul, ya, yb, yc, rv sb, .val gva, .val gvb, .val .null, .unset, .unset, .unset, .unset, .unset, .unset, .unset] []))
    exact sg_s209 hw oCS oCz oCa oBx p1 p2 p3 q4 q5 q6 ua ub uc ud ue ul (ya : Slot) (yb : Slot) (yc : Slot) sb gva gvb .null h0 hs1 X0 hS hL hJ hx hby hml hret hlk hZ hown hnm e0 N0 O0 K0 r_gva r_gvb (rfl : (.null : Value).isRef = true) (fp0.keep K1) (by omega) (by omega)
  · refine own_goW (fun _ k => XS.ifNo X0.here hx rfl (hb hby at_195) rfl ((if0 _ _).trans (feq hc141).1) k) ?_
    show own_GoW p e below s _ _ _ _ (T.setTop (mkF m 198 #[iv p1, iv p2, iv p3, .val (.long q4), .second, .val (.long q5), .second, .val (.long q6), .second, iv ua, iv ub, iv uc, iv ud, iv ue, iv ul, ya, yb, yc, rv sb, .val gva, .val gvb, .unset, .unset, .unset, .unset, .unset, .unset, .unset, .unset] []))
    refine own_goW (fun _ k => XS.lload X0.here hx rfl (hb hby at_198) rfl k) ?_
    show own_GoW p e below s _ _ _ _ (T.setTop (mkF m 200 #[iv p1, iv p2, iv p3, .val (.long q4), .second, .val (.long q5), .second, .val (.long q6), .second, iv ua, iv ub, iv uc, iv ud, iv ue, iv ul, ya, yb, yc, rv sb, .val gva, .val gvb, .unset, .unset, .unset, .unset, .unset, .unset, .unset, .unset] [(.long q5)]))
    obtain ⟨v142, T142, L142, X142, hQ142, st142⟩ := own_callS (y := (⟨"java/lang/Long", "valueOf", "(J)Ljava/lang/Long;"⟩ : MethodName)) X0 hx hZ hown (ow84 hw) (ow59 hw) (ow60 hw) (ow61 hw) (rm_valueOf l Z a0 hw oCS oCz oCa oBx [] q5 hs1 O0) 0 1 1 (by show _ ≤ 48; omega) (by show _ ≤ 1216; omega) e0 (g := (mkF m 200 #[iv p1, iv p2, iv p3, .val (.long q4), .second, .val (.long q5), .second, .val (.long q6), .second, iv ua, iv ub, iv uc, iv ud, iv ue, iv ul, ya, yb, yc, rv sb, .val gva, .val gvb, .unset, .unset, .unset, .unset, .unset, .unset, .unset, .unset] [(.long q5)])) rfl (by rw [hml]; rfl) [(.long q5)] [] (lenOf own_pd_4 rfl) rfl rfl (hb hby at_200)
    obtain ⟨w143, rfl, Nc147, Kc146, f144, f145⟩ := hQ142
    refine own_goW st142 ?_
    clear st142 X0 e0
    replace N0 := Fr.app N0 Nc147
    clear Nc147
    replace hS := own_since hS Kc146.1
    replace hJ := own_Jkeep hZ hJ Kc146 all0
    replace O0 := own_oldKeep O0 Kc146 all0
    replace K0 := K0.trans Kc146 all0
    replace K1 := K1.trans Kc146 all0
    clear Kc146
    show own_GoW p e below s _ _ _ _ (T142.setTop (mkF m 203 #[iv p1, iv p2, iv p3, .val (.long q4), .second, .val (.long q5), .second, .val (.long q6), .second, iv ua, iv ub, iv uc, iv ud, iv ue, iv ul, ya, yb, yc, rv sb, .val gva, .val gvb, .unset, .unset, .unset, .unset, .unset, .unset, .unset, .unset] [(.ref w143)]))
    refine own_goW (fun _ k => XS.goto X142.here hx rfl (pc0 := 203) (pc' := 207) rfl (hb hby at_203) (by decide) (by decide) k) ?_
    show own_GoW p e below s _ _ _ _ (T142.setTop (mkF m 207 #[iv p1, iv p2, iv p3, .val (.long q4), .second, .val (.long q5), .second, .val (.long q6), .second, iv ua, iv ub, iv uc, iv ud, iv ue, iv ul, ya, yb, yc, rv sb, .val gva, .val gvb, .unset, .unset, .unset, .unset, .unset, .unset, .unset, .unset] [(.ref w143)]))
    refine own_goW (fun _ k => XS.astore X142.here hx rfl (hb hby at_207) rfl rfl (l' := #[iv p1, iv p2, iv p3, .val (.long q4), .second, .val (.long q5), .second, .val (.long q6), .second, iv ua, iv ub, iv uc, iv ud, iv ue, iv ul, ya, yb, yc, rv sb, .val gva, .val gvb, rv w143, .unset, .unset, .unset, .unset, .unset, .unset, .unset]) rfl k) ?_
    show own_GoW p e below s _ _ _ _ (T142.setTop (mkF m 209 #[iv p1, iv p2, iv p3, .val (.long q4), .second, .val (.long q5), .second, .val (.long q6), .second, iv ua, iv ub, iv uc, iv ud, iv ue, iv ul, ya, yb, yc, rv sb, .val gva, .val gvb, rv w143, .unset, .unset, .unset, .unset, .unset, .unset, .unset] []))
    exact sg_s209 hw oCS oCz oCa oBx p1 p2 p3 q4 q5 q6 ua ub uc ud ue ul (ya : Slot) (yb : Slot) (yc : Slot) sb gva gvb (.ref w143) h0 T142.heap X142 hS hL hJ hx hby hml hret hlk hZ hown hnm (rfl : T142.heap = T142.heap) N0 O0 K0 r_gva r_gvb (rfl : ((.ref w143) : Value).isRef = true) (fp0.keep K1) (by omega) (by omega)
set_option maxRecDepth 65536 in
set_option maxHeartbeats 40000000 in
theorem sg_s178 {l : Launch} {Z : State} {a0 : Array Value} (hw : ∀ d ∈ tables_1, d.before a0 Z = true) {zc : Int32} {wc : Addr} {clc : Cell} (oCS : Sta Z Z.heap "java/lang/String" "COMPACT_STRINGS" "Z" (.int zc)) (oCz : ¬ zc = (0 : Int32)) (oCa : Sta Z Z.heap "java/lang/Long$LongCache" "cache" "[Ljava/lang/Long;" (.ref wc)) (oBx : Bxs Z wc clc "java/lang/Long" "J" (256 : Int32) own_bxv) {p : Program} {e : Env} {s : State} {vm0 : Vm} {m : MethodId} {args : Array Value} {below : List Frame} {meth : Method} {c : Code} {T : State} {locs : List Loc} {cells slots : Nat} (p1 : Int32) (p2 : Int32) (p3 : Int32) (q4 : Int64) (q5 : Int64) (q6 : Int64) (ua : Int32) (ub : Int32) (uc : Int32) (ud : Int32) (ue : Int32) (ul : Int32) (ya : Slot) (yb : Slot) (yc : Slot) (sb : Addr) (gva : Value) (h0 hs1 : Heap)
    (X0 : Stand p l e room_1 (s.setVm vm0) m args below meth c T locs cells slots) (hS : s.Since vm0 hs1.size) (hL : own_L Z a0) (hJ : own_J Z vm0 hs1) (hx : p.tables.exec = Jvm.exec) (hby : c.code = code) (hml : c.maxLocals = 29) (hret : meth.sig.returnType = some .boolean) (hlk : meth.locks = false) (hZ : Z.Warmed39 (s.setVm vm0).vm) (hown : (s.setVm vm0).vm.findClass "com/example/countersign/countersign/server/ExchangeSucceededPinLaw" = some m.cls) (hnm : meth.name = "law") (e0 : T.heap = hs1) (N0 : Fr Z.heap.size locs) (O0 : Ext Z.heap hs1) (K0 : Keep h0 hs1 []) (r_gva : gva.isRef = true) (fp0 : Exa Z hs1 sb "java/lang/String") (hcells : cells ≤ 20) (hslots : slots ≤ 100) :
    own_GoW p e below s Z (Q_law Z zc wc clc p1 p2 p3 q4 q5 q6 h0) room_1.cells room_1.slots (T.setTop (mkF m 178 #[iv p1, iv p2, iv p3, .val (.long q4), .second, .val (.long q5), .second, .val (.long q6), .second, iv ua, iv ub, iv uc, iv ud, iv ue, iv ul, ya, yb, yc, rv sb, .val gva, .unset, .unset, .unset, .unset, .unset, .unset, .unset, .unset, .unset] [])) := by
  have K1 := Keep.refl hs1 []
  show own_GoW p e below s _ _ _ _ (T.setTop (mkF m 178 #[iv p1, iv p2, iv p3, .val (.long q4), .second, .val (.long q5), .second, .val (.long q6), .second, iv ua, iv ub, iv uc, iv ud, iv ue, iv ul, ya, yb, yc, rv sb, .val gva, .unset, .unset, .unset, .unset, .unset, .unset, .unset, .unset, .unset] []))
  refine own_goW (fun _ k => XS.iload X0.here hx rfl (hb hby at_178) rfl k) ?_
  show own_GoW p e below s _ _ _ _ (T.setTop (mkF m 180 #[iv p1, iv p2, iv p3, .val (.long q4), .second, .val (.long q5), .second, .val (.long q6), .second, iv ua, iv ub, iv uc, iv ud, iv ue, iv ul, ya, yb, yc, rv sb, .val gva, .unset, .unset, .unset, .unset, .unset, .unset, .unset, .unset, .unset] [(.int ub)]))
  by_cases hc148 : ub = (0 : Int32)
  · refine own_goW (fun _ k => XS.ifYes X0.here hx rfl (pc0 := 180) (pc' := 190) rfl (hb hby at_180) rfl ((if0 _ _).trans (teq hc148).1) (by decide) (by decide) k) ?_
    show own_GoW p e below s _ _ _ _ (T.setTop (mkF m 190 #[iv p1, iv p2, iv p3, .val (.long q4), .second, .val (.long q5), .second, .val (.long q6), .second, iv ua, iv ub, iv uc, iv ud, iv ue, iv ul, ya, yb, yc, rv sb, .val gva, .unset, .unset, .unset, .unset, .unset, .unset, .unset, .unset, .unset] []))
    refine own_goW (fun _ k => XS.aconstNull X0.here hx rfl (hb hby at_190) k) ?_
    show own_GoW p e below s _ _ _ _ (T.setTop (mkF m 191 #[iv p1, iv p2, iv p3, .val (.long q4), .second, .val (.long q5), .second, .val (.long q6), .second, iv ua, iv ub, iv uc, iv ud, iv ue, iv ul, ya, yb, yc, rv sb, .val gva, .unset, .unset, .unset, .unset, .unset, .unset, .unset, .unset, .unset] [.null]))
    refine own_goW (fun _ k => XS.astore X0.here hx rfl (hb hby at_191) rfl rfl (l' := #[iv p1, iv p2, iv p3, .val (.long q4), .second, .val (.long q5), .second, .val (.long q6), .second, iv ua, iv ub, iv uc, iv ud, iv ue, iv ul, ya, yb, yc, rv sb, .val gva, .val .null, .unset, .unset, .unset, .unset, .unset, .unset, .unset, .unset]) rfl k) ?_
    show own_GoW p e below s _ _ _ _ (T.setTop (mkF m 193 #[iv p1, iv p2, iv p3, .val (.long q4), .second, .val (.long q5), .second, .val (.long q6), .second, iv ua, iv ub, iv uc, iv ud, iv ue, iv ul, ya, yb, yc, rv sb, .val gva, .val .null, .unset, .unset, .unset, .unset, .unset, .unset, .unset, .unset] []))
    exact sg_s193 hw oCS oCz oCa oBx p1 p2 p3 q4 q5 q6 ua ub uc ud ue ul (ya : Slot) (yb : Slot) (yc : Slot) sb gva .null h0 hs1 X0 hS hL hJ hx hby hml hret hlk hZ hown hnm e0 N0 O0 K0 r_gva (rfl : (.null : Value).isRef = true) (fp0.keep K1) (by omega) (by omega)
  · refine own_goW (fun _ k => XS.ifNo X0.here hx rfl (hb hby at_180) rfl ((if0 _ _).trans (feq hc148).1) k) ?_
    show own_GoW p e below s _ _ _ _ (T.setTop (mkF m 183 #[iv p1, iv p2, iv p3, .val (.long q4), .second, .val (.long q5), .second, .val (.long q6), .second, iv ua, iv ub, iv uc, iv ud, iv ue, iv ul, ya, yb, yc, rv sb, .val gva, .unset, .unset, .unset, .unset, .unset, .unset, .unset, .unset, .unset] []))
    refine own_goW (fun _ k => XS.lloadN X0.here hx rfl (hb hby at_183) rfl k) ?_
    show own_GoW p e below s _ _ _ _ (T.setTop (mkF m 184 #[iv p1, iv p2, iv p3, .val (.long q4), .second, .val (.long q5), .second, .val (.long q6), .second, iv ua, iv ub, iv uc, iv ud, iv ue, iv ul, ya, yb, yc, rv sb, .val gva, .unset, .unset, .unset, .unset, .unset, .unset, .unset, .unset, .unset] [(.long q4)]))
    obtain ⟨v149, T149, L149, X149, hQ149, st149⟩ := own_callS (y := (⟨"java/lang/Long", "valueOf", "(J)Ljava/lang/Long;"⟩ : MethodName)) X0 hx hZ hown (ow84 hw) (ow59 hw) (ow60 hw) (ow61 hw) (rm_valueOf l Z a0 hw oCS oCz oCa oBx [] q4 hs1 O0) 0 1 1 (by show _ ≤ 48; omega) (by show _ ≤ 1216; omega) e0 (g := (mkF m 184 #[iv p1, iv p2, iv p3, .val (.long q4), .second, .val (.long q5), .second, .val (.long q6), .second, iv ua, iv ub, iv uc, iv ud, iv ue, iv ul, ya, yb, yc, rv sb, .val gva, .unset, .unset, .unset, .unset, .unset, .unset, .unset, .unset, .unset] [(.long q4)])) rfl (by rw [hml]; rfl) [(.long q4)] [] (lenOf own_pd_4 rfl) rfl rfl (hb hby at_184)
    obtain ⟨w150, rfl, Nc154, Kc153, f151, f152⟩ := hQ149
    refine own_goW st149 ?_
    clear st149 X0 e0
    replace N0 := Fr.app N0 Nc154
    clear Nc154
    replace hS := own_since hS Kc153.1
    replace hJ := own_Jkeep hZ hJ Kc153 all0
    replace O0 := own_oldKeep O0 Kc153 all0
    replace K0 := K0.trans Kc153 all0
    replace K1 := K1.trans Kc153 all0
    clear Kc153
    show own_GoW p e below s _ _ _ _ (T149.setTop (mkF m 187 #[iv p1, iv p2, iv p3, .val (.long q4), .second, .val (.long q5), .second, .val (.long q6), .second, iv ua, iv ub, iv uc, iv ud, iv ue, iv ul, ya, yb, yc, rv sb, .val gva, .unset, .unset, .unset, .unset, .unset, .unset, .unset, .unset, .unset] [(.ref w150)]))
    refine own_goW (fun _ k => XS.goto X149.here hx rfl (pc0 := 187) (pc' := 191) rfl (hb hby at_187) (by decide) (by decide) k) ?_
    show own_GoW p e below s _ _ _ _ (T149.setTop (mkF m 191 #[iv p1, iv p2, iv p3, .val (.long q4), .second, .val (.long q5), .second, .val (.long q6), .second, iv ua, iv ub, iv uc, iv ud, iv ue, iv ul, ya, yb, yc, rv sb, .val gva, .unset, .unset, .unset, .unset, .unset, .unset, .unset, .unset, .unset] [(.ref w150)]))
    refine own_goW (fun _ k => XS.astore X149.here hx rfl (hb hby at_191) rfl rfl (l' := #[iv p1, iv p2, iv p3, .val (.long q4), .second, .val (.long q5), .second, .val (.long q6), .second, iv ua, iv ub, iv uc, iv ud, iv ue, iv ul, ya, yb, yc, rv sb, .val gva, rv w150, .unset, .unset, .unset, .unset, .unset, .unset, .unset, .unset]) rfl k) ?_
    show own_GoW p e below s _ _ _ _ (T149.setTop (mkF m 193 #[iv p1, iv p2, iv p3, .val (.long q4), .second, .val (.long q5), .second, .val (.long q6), .second, iv ua, iv ub, iv uc, iv ud, iv ue, iv ul, ya, yb, yc, rv sb, .val gva, rv w150, .unset, .unset, .unset, .unset, .unset, .unset, .unset, .unset] []))
    exact sg_s193 hw oCS oCz oCa oBx p1 p2 p3 q4 q5 q6 ua ub uc ud ue ul (ya : Slot) (yb : Slot) (yc : Slot) sb gva (.ref w150) h0 T149.heap X149 hS hL hJ hx hby hml hret hlk hZ hown hnm (rfl : T149.heap = T149.heap) N0 O0 K0 r_gva (rfl : ((.ref w150) : Value).isRef = true) (fp0.keep K1) (by omega) (by omega)
set_option maxRecDepth 65536 in
set_option maxHeartbeats 40000000 in
theorem sg_s163 {l : Launch} {Z : State} {a0 : Array Value} (hw : ∀ d ∈ tables_1, d.before a0 Z = true) {zc : Int32} {wc : Addr} {clc : Cell} (oCS : Sta Z Z.heap "java/lang/String" "COMPACT_STRINGS" "Z" (.int zc)) (oCz : ¬ zc = (0 : Int32)) (oCa : Sta Z Z.heap "java/lang/Long$LongCache" "cache" "[Ljava/lang/Long;" (.ref wc)) (oBx : Bxs Z wc clc "java/lang/Long" "J" (256 : Int32) own_bxv) {p : Program} {e : Env} {s : State} {vm0 : Vm} {m : MethodId} {args : Array Value} {below : List Frame} {meth : Method} {c : Code} {T : State} {locs : List Loc} {cells slots : Nat} (p1 : Int32) (p2 : Int32) (p3 : Int32) (q4 : Int64) (q5 : Int64) (q6 : Int64) (ua : Int32) (ub : Int32) (uc : Int32) (ud : Int32) (ue : Int32) (ul : Int32) (ya : Slot) (yb : Slot) (yc : Slot) (sb : Addr) (h0 hs1 : Heap)
    (X0 : Stand p l e room_1 (s.setVm vm0) m args below meth c T locs cells slots) (hS : s.Since vm0 hs1.size) (hL : own_L Z a0) (hJ : own_J Z vm0 hs1) (hx : p.tables.exec = Jvm.exec) (hby : c.code = code) (hml : c.maxLocals = 29) (hret : meth.sig.returnType = some .boolean) (hlk : meth.locks = false) (hZ : Z.Warmed39 (s.setVm vm0).vm) (hown : (s.setVm vm0).vm.findClass "com/example/countersign/countersign/server/ExchangeSucceededPinLaw" = some m.cls) (hnm : meth.name = "law") (e0 : T.heap = hs1) (N0 : Fr Z.heap.size locs) (O0 : Ext Z.heap hs1) (K0 : Keep h0 hs1 []) (fp0 : Exa Z hs1 sb "java/lang/String") (hcells : cells ≤ 20) (hslots : slots ≤ 100) :
    own_GoW p e below s Z (Q_law Z zc wc clc p1 p2 p3 q4 q5 q6 h0) room_1.cells room_1.slots (T.setTop (mkF m 163 #[iv p1, iv p2, iv p3, .val (.long q4), .second, .val (.long q5), .second, .val (.long q6), .second, iv ua, iv ub, iv uc, iv ud, iv ue, iv ul, ya, yb, yc, .unset, .unset, .unset, .unset, .unset, .unset, .unset, .unset, .unset, .unset, .unset] [(.ref sb)])) := by
  have K1 := Keep.refl hs1 []
  show own_GoW p e below s _ _ _ _ (T.setTop (mkF m 163 #[iv p1, iv p2, iv p3, .val (.long q4), .second, .val (.long q5), .second, .val (.long q6), .second, iv ua, iv ub, iv uc, iv ud, iv ue, iv ul, ya, yb, yc, .unset, .unset, .unset, .unset, .unset, .unset, .unset, .unset, .unset, .unset, .unset] [(.ref sb)]))
  refine own_goW (fun _ k => XS.astore X0.here hx rfl (hb hby at_163) rfl rfl (l' := #[iv p1, iv p2, iv p3, .val (.long q4), .second, .val (.long q5), .second, .val (.long q6), .second, iv ua, iv ub, iv uc, iv ud, iv ue, iv ul, ya, yb, yc, rv sb, .unset, .unset, .unset, .unset, .unset, .unset, .unset, .unset, .unset, .unset]) rfl k) ?_
  show own_GoW p e below s _ _ _ _ (T.setTop (mkF m 165 #[iv p1, iv p2, iv p3, .val (.long q4), .second, .val (.long q5), .second, .val (.long q6), .second, iv ua, iv ub, iv uc, iv ud, iv ue, iv ul, ya, yb, yc, rv sb, .unset, .unset, .unset, .unset, .unset, .unset, .unset, .unset, .unset, .unset] []))
  refine own_goW (fun _ k => XS.iload X0.here hx rfl (hb hby at_165) rfl k) ?_
  show own_GoW p e below s _ _ _ _ (T.setTop (mkF m 167 #[iv p1, iv p2, iv p3, .val (.long q4), .second, .val (.long q5), .second, .val (.long q6), .second, iv ua, iv ub, iv uc, iv ud, iv ue, iv ul, ya, yb, yc, rv sb, .unset, .unset, .unset, .unset, .unset, .unset, .unset, .unset, .unset, .unset] [(.int ua)]))
  by_cases hc155 : ua = (0 : Int32)
  · refine own_goW (fun _ k => XS.ifYes X0.here hx rfl (pc0 := 167) (pc' := 175) rfl (hb hby at_167) rfl ((if0 _ _).trans (teq hc155).1) (by decide) (by decide) k) ?_
    show own_GoW p e below s _ _ _ _ (T.setTop (mkF m 175 #[iv p1, iv p2, iv p3, .val (.long q4), .second, .val (.long q5), .second, .val (.long q6), .second, iv ua, iv ub, iv uc, iv ud, iv ue, iv ul, ya, yb, yc, rv sb, .unset, .unset, .unset, .unset, .unset, .unset, .unset, .unset, .unset, .unset] []))
    refine own_goW (fun _ k => XS.aconstNull X0.here hx rfl (hb hby at_175) k) ?_
    show own_GoW p e below s _ _ _ _ (T.setTop (mkF m 176 #[iv p1, iv p2, iv p3, .val (.long q4), .second, .val (.long q5), .second, .val (.long q6), .second, iv ua, iv ub, iv uc, iv ud, iv ue, iv ul, ya, yb, yc, rv sb, .unset, .unset, .unset, .unset, .unset, .unset, .unset, .unset, .unset, .unset] [.null]))
    refine own_goW (fun _ k => XS.astore X0.here hx rfl (hb hby at_176) rfl rfl (l' := #[iv p1, iv p2, iv p3, .val (.long q4), .second, .val (.long q5), .second, .val (.long q6), .second, iv ua, iv ub, iv uc, iv ud, iv ue, iv ul, ya, yb, yc, rv sb, .val .null, .unset, .unset, .unset, .unset, .unset, .unset, .unset, .unset, .unset]) rfl k) ?_
    show own_GoW p e below s _ _ _ _ (T.setTop (mkF m 178 #[iv p1, iv p2, iv p3, .val (.long q4), .second, .val (.long q5), .second, .val (.long q6), .second, iv ua, iv ub, iv uc, iv ud, iv ue, iv ul, ya, yb, yc, rv sb, .val .null, .unset, .unset, .unset, .unset, .unset, .unset, .unset, .unset, .unset] []))
    exact sg_s178 hw oCS oCz oCa oBx p1 p2 p3 q4 q5 q6 ua ub uc ud ue ul (ya : Slot) (yb : Slot) (yc : Slot) sb .null h0 hs1 X0 hS hL hJ hx hby hml hret hlk hZ hown hnm e0 N0 O0 K0 (rfl : (.null : Value).isRef = true) (fp0.keep K1) (by omega) (by omega)
  · refine own_goW (fun _ k => XS.ifNo X0.here hx rfl (hb hby at_167) rfl ((if0 _ _).trans (feq hc155).1) k) ?_
    show own_GoW p e below s _ _ _ _ (T.setTop (mkF m 170 #[iv p1, iv p2, iv p3, .val (.long q4), .second, .val (.long q5), .second, .val (.long q6), .second, iv ua, iv ub, iv uc, iv ud, iv ue, iv ul, ya, yb, yc, rv sb, .unset, .unset, .unset, .unset, .unset, .unset, .unset, .unset, .unset, .unset] []))
    refine own_goW (fun _ k => XS.aload X0.here hx rfl (hb hby at_170) rfl rfl k) ?_
    show own_GoW p e below s _ _ _ _ (T.setTop (mkF m 172 #[iv p1, iv p2, iv p3, .val (.long q4), .second, .val (.long q5), .second, .val (.long q6), .second, iv ua, iv ub, iv uc, iv ud, iv ue, iv ul, ya, yb, yc, rv sb, .unset, .unset, .unset, .unset, .unset, .unset, .unset, .unset, .unset, .unset] [(.ref sb)]))
    refine own_goW (fun _ k => XS.goto X0.here hx rfl (pc0 := 172) (pc' := 176) rfl (hb hby at_172) (by decide) (by decide) k) ?_
    show own_GoW p e below s _ _ _ _ (T.setTop (mkF m 176 #[iv p1, iv p2, iv p3, .val (.long q4), .second, .val (.long q5), .second, .val (.long q6), .second, iv ua, iv ub, iv uc, iv ud, iv ue, iv ul, ya, yb, yc, rv sb, .unset, .unset, .unset, .unset, .unset, .unset, .unset, .unset, .unset, .unset] [(.ref sb)]))
    refine own_goW (fun _ k => XS.astore X0.here hx rfl (hb hby at_176) rfl rfl (l' := #[iv p1, iv p2, iv p3, .val (.long q4), .second, .val (.long q5), .second, .val (.long q6), .second, iv ua, iv ub, iv uc, iv ud, iv ue, iv ul, ya, yb, yc, rv sb, rv sb, .unset, .unset, .unset, .unset, .unset, .unset, .unset, .unset, .unset]) rfl k) ?_
    show own_GoW p e below s _ _ _ _ (T.setTop (mkF m 178 #[iv p1, iv p2, iv p3, .val (.long q4), .second, .val (.long q5), .second, .val (.long q6), .second, iv ua, iv ub, iv uc, iv ud, iv ue, iv ul, ya, yb, yc, rv sb, rv sb, .unset, .unset, .unset, .unset, .unset, .unset, .unset, .unset, .unset] []))
    exact sg_s178 hw oCS oCz oCa oBx p1 p2 p3 q4 q5 q6 ua ub uc ud ue ul (ya : Slot) (yb : Slot) (yc : Slot) sb (.ref sb) h0 hs1 X0 hS hL hJ hx hby hml hret hlk hZ hown hnm e0 N0 O0 K0 (rfl : ((.ref sb) : Value).isRef = true) (fp0.keep K1) (by omega) (by omega)
set_option maxRecDepth 65536 in
set_option maxHeartbeats 40000000 in
theorem sg_s65 {l : Launch} {Z : State} {a0 : Array Value} (hw : ∀ d ∈ tables_1, d.before a0 Z = true) {zc : Int32} {wc : Addr} {clc : Cell} (oCS : Sta Z Z.heap "java/lang/String" "COMPACT_STRINGS" "Z" (.int zc)) (oCz : ¬ zc = (0 : Int32)) (oCa : Sta Z Z.heap "java/lang/Long$LongCache" "cache" "[Ljava/lang/Long;" (.ref wc)) (oBx : Bxs Z wc clc "java/lang/Long" "J" (256 : Int32) own_bxv) {p : Program} {e : Env} {s : State} {vm0 : Vm} {m : MethodId} {args : Array Value} {below : List Frame} {meth : Method} {c : Code} {T : State} {locs : List Loc} {cells slots : Nat} (p1 : Int32) (p2 : Int32) (p3 : Int32) (q4 : Int64) (q5 : Int64) (q6 : Int64) (ua : Int32) (ub : Int32) (uc : Int32) (ud : Int32) (ue : Int32) (h0 hs1 : Heap)
    (X0 : Stand p l e room_1 (s.setVm vm0) m args below meth c T locs cells slots) (hS : s.Since vm0 hs1.size) (hL : own_L Z a0) (hJ : own_J Z vm0 hs1) (hx : p.tables.exec = Jvm.exec) (hby : c.code = code) (hml : c.maxLocals = 29) (hret : meth.sig.returnType = some .boolean) (hlk : meth.locks = false) (hZ : Z.Warmed39 (s.setVm vm0).vm) (hown : (s.setVm vm0).vm.findClass "com/example/countersign/countersign/server/ExchangeSucceededPinLaw" = some m.cls) (hnm : meth.name = "law") (e0 : T.heap = hs1) (N0 : Fr Z.heap.size locs) (O0 : Ext Z.heap hs1) (K0 : Keep h0 hs1 []) (hcells : cells ≤ 0) (hslots : slots ≤ 0) :
    own_GoW p e below s Z (Q_law Z zc wc clc p1 p2 p3 q4 q5 q6 h0) room_1.cells room_1.slots (T.setTop (mkF m 65 #[iv p1, iv p2, iv p3, .val (.long q4), .second, .val (.long q5), .second, .val (.long q6), .second, iv ua, iv ub, iv uc, iv ud, .unset, .unset, .unset, .unset, .unset, .unset, .unset, .unset, .unset, .unset, .unset, .unset, .unset, .unset, .unset, .unset] [(.int ue)])) := by
  have K1 := Keep.refl hs1 []
  show own_GoW p e below s _ _ _ _ (T.setTop (mkF m 65 #[iv p1, iv p2, iv p3, .val (.long q4), .second, .val (.long q5), .second, .val (.long q6), .second, iv ua, iv ub, iv uc, iv ud, .unset, .unset, .unset, .unset, .unset, .unset, .unset, .unset, .unset, .unset, .unset, .unset, .unset, .unset, .unset, .unset] [(.int ue)]))
  refine own_goW (fun _ k => XS.istore X0.here hx rfl (hb hby at_65) rfl (l' := #[iv p1, iv p2, iv p3, .val (.long q4), .second, .val (.long q5), .second, .val (.long q6), .second, iv ua, iv ub, iv uc, iv ud, iv ue, .unset, .unset, .unset, .unset, .unset, .unset, .unset, .unset, .unset, .unset, .unset, .unset, .unset, .unset, .unset]) rfl k) ?_
  show own_GoW p e below s _ _ _ _ (T.setTop (mkF m 67 #[iv p1, iv p2, iv p3, .val (.long q4), .second, .val (.long q5), .second, .val (.long q6), .second, iv ua, iv ub, iv uc, iv ud, iv ue, .unset, .unset, .unset, .unset, .unset, .unset, .unset, .unset, .unset, .unset, .unset, .unset, .unset, .unset, .unset] []))
  refine own_goW (fun _ k => XS.iloadN X0.here hx rfl (hb hby at_67) rfl k) ?_
  show own_GoW p e below s _ _ _ _ (T.setTop (mkF m 68 #[iv p1, iv p2, iv p3, .val (.long q4), .second, .val (.long q5), .second, .val (.long q6), .second, iv ua, iv ub, iv uc, iv ud, iv ue, .unset, .unset, .unset, .unset, .unset, .unset, .unset, .unset, .unset, .unset, .unset, .unset, .unset, .unset, .unset] [(.int p1)]))
  refine own_goW (fun _ k => XS.iconst X0.here hx rfl (hb hby at_68) k) ?_
  show own_GoW p e below s _ _ _ _ (T.setTop (mkF m 69 #[iv p1, iv p2, iv p3, .val (.long q4), .second, .val (.long q5), .second, .val (.long q6), .second, iv ua, iv ub, iv uc, iv ud, iv ue, .unset, .unset, .unset, .unset, .unset, .unset, .unset, .unset, .unset, .unset, .unset, .unset, .unset, .unset, .unset] [(.int (5 : Int32)), (.int p1)]))
  refine own_goW (fun _ k => XS.iushr X0.here hx rfl (hb hby at_69) rfl k) ?_
  show own_GoW p e below s _ _ _ _ (T.setTop (mkF m 70 #[iv p1, iv p2, iv p3, .val (.long q4), .second, .val (.long q5), .second, .val (.long q6), .second, iv ua, iv ub, iv uc, iv ud, iv ue, .unset, .unset, .unset, .unset, .unset, .unset, .unset, .unset, .unset, .unset, .unset, .unset, .unset, .unset, .unset] [(.int ((p1.toUInt32 >>> ((5 : Int32) &&& 31).toUInt32).toInt32))]))
  refine own_goW (X0.ldcInt hx hown (mvT hZ (ow0 hw)) (g := (mkF m 70 #[iv p1, iv p2, iv p3, .val (.long q4), .second, .val (.long q5), .second, .val (.long q6), .second, iv ua, iv ub, iv uc, iv ud, iv ue, .unset, .unset, .unset, .unset, .unset, .unset, .unset, .unset, .unset, .unset, .unset, .unset, .unset, .unset, .unset] [(.int ((p1.toUInt32 >>> ((5 : Int32) &&& 31).toUInt32).toInt32))])) rfl (hb hby at_70)) ?_
  show own_GoW p e below s _ _ _ _ (T.setTop (mkF m 72 #[iv p1, iv p2, iv p3, .val (.long q4), .second, .val (.long q5), .second, .val (.long q6), .second, iv ua, iv ub, iv uc, iv ud, iv ue, .unset, .unset, .unset, .unset, .unset, .unset, .unset, .unset, .unset, .unset, .unset, .unset, .unset, .unset, .unset] [(.int (2147483647 : Int32)), (.int ((p1.toUInt32 >>> ((5 : Int32) &&& 31).toUInt32).toInt32))]))
  refine own_goW (fun _ k => XS.iand X0.here hx rfl (hb hby at_72) rfl k) ?_
  show own_GoW p e below s _ _ _ _ (T.setTop (mkF m 73 #[iv p1, iv p2, iv p3, .val (.long q4), .second, .val (.long q5), .second, .val (.long q6), .second, iv ua, iv ub, iv uc, iv ud, iv ue, .unset, .unset, .unset, .unset, .unset, .unset, .unset, .unset, .unset, .unset, .unset, .unset, .unset, .unset, .unset] [(.int (((p1.toUInt32 >>> ((5 : Int32) &&& 31).toUInt32).toInt32) &&& (2147483647 : Int32)))]))
  refine own_goW (fun _ k => XS.iconst X0.here hx rfl (hb hby at_73) k) ?_
  show own_GoW p e below s _ _ _ _ (T.setTop (mkF m 74 #[iv p1, iv p2, iv p3, .val (.long q4), .second, .val (.long q5), .second, .val (.long q6), .second, iv ua, iv ub, iv uc, iv ud, iv ue, .unset, .unset, .unset, .unset, .unset, .unset, .unset, .unset, .unset, .unset, .unset, .unset, .unset, .unset, .unset] [(.int (3 : Int32)), (.int (((p1.toUInt32 >>> ((5 : Int32) &&& 31).toUInt32).toInt32) &&& (2147483647 : Int32)))]))
  refine own_goW (fun _ k => iremM X0 hx rfl (hb hby at_74) rfl (by decide : ¬ ((3 : Int32) = (0 : Int32))) k) ?_
  show own_GoW p e below s _ _ _ _ (T.setTop (mkF m 75 #[iv p1, iv p2, iv p3, .val (.long q4), .second, .val (.long q5), .second, .val (.long q6), .second, iv ua, iv ub, iv uc, iv ud, iv ue, .unset, .unset, .unset, .unset, .unset, .unset, .unset, .unset, .unset, .unset, .unset, .unset, .unset, .unset, .unset] [(.int ((((p1.toUInt32 >>> ((5 : Int32) &&& 31).toUInt32).toInt32) &&& (2147483647 : Int32)) % (3 : Int32)))]))
  refine own_goW (fun _ k => XS.istore X0.here hx rfl (hb hby at_75) rfl (l' := #[iv p1, iv p2, iv p3, .val (.long q4), .second, .val (.long q5), .second, .val (.long q6), .second, iv ua, iv ub, iv uc, iv ud, iv ue, iv ((((p1.toUInt32 >>> ((5 : Int32) &&& 31).toUInt32).toInt32) &&& (2147483647 : Int32)) % (3 : Int32)), .unset, .unset, .unset, .unset, .unset, .unset, .unset, .unset, .unset, .unset, .unset, .unset, .unset, .unset]) rfl k) ?_
  show own_GoW p e below s _ _ _ _ (T.setTop (mkF m 77 #[iv p1, iv p2, iv p3, .val (.long q4), .second, .val (.long q5), .second, .val (.long q6), .second, iv ua, iv ub, iv uc, iv ud, iv ue, iv ((((p1.toUInt32 >>> ((5 : Int32) &&& 31).toUInt32).toInt32) &&& (2147483647 : Int32)) % (3 : Int32)), .unset, .unset, .unset, .unset, .unset, .unset, .unset, .unset, .unset, .unset, .unset, .unset, .unset, .unset] []))
  refine own_goW (fun _ k => XS.iconst X0.here hx rfl (hb hby at_77) k) ?_
  show own_GoW p e below s _ _ _ _ (T.setTop (mkF m 78 #[iv p1, iv p2, iv p3, .val (.long q4), .second, .val (.long q5), .second, .val (.long q6), .second, iv ua, iv ub, iv uc, iv ud, iv ue, iv ((((p1.toUInt32 >>> ((5 : Int32) &&& 31).toUInt32).toInt32) &&& (2147483647 : Int32)) % (3 : Int32)), .unset, .unset, .unset, .unset, .unset, .unset, .unset, .unset, .unset, .unset, .unset, .unset, .unset, .unset] [(.int (0 : Int32))]))
  obtain ⟨T156, h156, k156, X156, e156, E156, A156, st156⟩ := newP (aty := .char) X0 hx hZ (ow1 hw) e0 (g := (mkF m 78 #[iv p1, iv p2, iv p3, .val (.long q4), .second, .val (.long q5), .second, .val (.long q6), .second, iv ua, iv ub, iv uc, iv ud, iv ue, iv ((((p1.toUInt32 >>> ((5 : Int32) &&& 31).toUInt32).toInt32) &&& (2147483647 : Int32)) % (3 : Int32)), .unset, .unset, .unset, .unset, .unset, .unset, .unset, .unset, .unset, .unset, .unset, .unset, .unset, .unset] [(.int (0 : Int32))])) rfl (hb hby at_78) rfl (by decide) (cap := 0) (by decide) (by decide) (by show _ ≤ 48; omega) (by show _ ≤ 1216; omega)
  obtain ⟨b156, g156⟩ : ∃ z, z = hs1.size := ⟨_, rfl⟩
  rw [← g156] at A156 st156
  refine own_goW st156 ?_
  clear st156 X0 e0
  have ge156 := Nat.le_of_eq g156.symm
  have big157 : Z.heap.size ≤ b156 := Nat.le_trans O0.1 ge156
  have sz158 : h0.size ≤ b156 := Nat.le_trans K0.1 ge156
  have sz159 : hs1.size ≤ b156 := Nat.le_trans K1.1 ge156
  replace O0 := own_oldExt O0 E156
  replace K0 := K0.ext E156
  replace K1 := K1.ext E156
  replace hS := own_since hS E156.1
  replace hJ := own_Jext hJ E156
  clear E156
  have f160 : Arv Z h156 b156 k156 .char (0 : Int32) [] (.int (0 : Int32)) := (Arv.new A156 (by decide)).pad (pad_rep [] (.int (0 : Int32)) 0)
  show own_GoW p e below s _ _ _ _ (T156.setTop (mkF m 80 #[iv p1, iv p2, iv p3, .val (.long q4), .second, .val (.long q5), .second, .val (.long q6), .second, iv ua, iv ub, iv uc, iv ud, iv ue, iv ((((p1.toUInt32 >>> ((5 : Int32) &&& 31).toUInt32).toInt32) &&& (2147483647 : Int32)) % (3 : Int32)), .unset, .unset, .unset, .unset, .unset, .unset, .unset, .unset, .unset, .unset, .unset, .unset, .unset, .unset] [(.ref b156)]))
  refine own_goW (fun _ k => XS.astore X156.here hx rfl (hb hby at_80) rfl rfl (l' := #[iv p1, iv p2, iv p3, .val (.long q4), .second, .val (.long q5), .second, .val (.long q6), .second, iv ua, iv ub, iv uc, iv ud, iv ue, iv ((((p1.toUInt32 >>> ((5 : Int32) &&& 31).toUInt32).toInt32) &&& (2147483647 : Int32)) % (3 : Int32)), rv b156, .unset, .unset, .unset, .unset, .unset, .unset, .unset, .unset, .unset, .unset, .unset, .unset, .unset]) rfl k) ?_
  show own_GoW p e below s _ _ _ _ (T156.setTop (mkF m 82 #[iv p1, iv p2, iv p3, .val (.long q4), .second, .val (.long q5), .second, .val (.long q6), .second, iv ua, iv ub, iv uc, iv ud, iv ue, iv ((((p1.toUInt32 >>> ((5 : Int32) &&& 31).toUInt32).toInt32) &&& (2147483647 : Int32)) % (3 : Int32)), rv b156, .unset, .unset, .unset, .unset, .unset, .unset, .unset, .unset, .unset, .unset, .unset, .unset, .unset] []))
  refine own_goW (fun _ k => XS.iconst X156.here hx rfl (hb hby at_82) k) ?_
  show own_GoW p e below s _ _ _ _ (T156.setTop (mkF m 83 #[iv p1, iv p2, iv p3, .val (.long q4), .second, .val (.long q5), .second, .val (.long q6), .second, iv ua, iv ub, iv uc, iv ud, iv ue, iv ((((p1.toUInt32 >>> ((5 : Int32) &&& 31).toUInt32).toInt32) &&& (2147483647 : Int32)) % (3 : Int32)), rv b156, .unset, .unset, .unset, .unset, .unset, .unset, .unset, .unset, .unset, .unset, .unset, .unset, .unset] [(.int (1 : Int32))]))
  obtain ⟨T161, h161, k161, X161, e161, E161, A161, st161⟩ := newP (aty := .char) X156 hx hZ (ow1 hw) e156 (g := (mkF m 83 #[iv p1, iv p2, iv p3, .val (.long q4), .second, .val (.long q5), .second, .val (.long q6), .second, iv ua, iv ub, iv uc, iv ud, iv ue, iv ((((p1.toUInt32 >>> ((5 : Int32) &&& 31).toUInt32).toInt32) &&& (2147483647 : Int32)) % (3 : Int32)), rv b156, .unset, .unset, .unset, .unset, .unset, .unset, .unset, .unset, .unset, .unset, .unset, .unset, .unset] [(.int (1 : Int32))])) rfl (hb hby at_83) rfl (by decide) (cap := 1) (by decide) (by decide) (by show _ ≤ 48; omega) (by show _ ≤ 1216; omega)
  obtain ⟨b161, g161⟩ : ∃ z, z = h156.size := ⟨_, rfl⟩
  rw [← g161] at A161 st161
  refine own_goW st161 ?_
  clear st161 X156 e156
  have ge161 := Nat.le_of_eq g161.symm
  have ne162 : b156 ≠ b161 := Nat.ne_of_lt (Nat.lt_of_lt_of_le f160.lt ge161)
  have big163 : Z.heap.size ≤ b161 := Nat.le_trans O0.1 ge161
  have sz164 : h0.size ≤ b161 := Nat.le_trans K0.1 ge161
  have sz165 : hs1.size ≤ b161 := Nat.le_trans K1.1 ge161
  replace f160 := f160.ext E161
  replace O0 := own_oldExt O0 E161
  replace K0 := K0.ext E161
  replace K1 := K1.ext E161
  replace hS := own_since hS E161.1
  replace hJ := own_Jext hJ E161
  clear E161
  have f166 : Arv Z h161 b161 k161 .char (1 : Int32) [(.int (0 : Int32))] (.int (0 : Int32)) := (Arv.new A161 (by decide)).pad (pad_rep [] (.int (0 : Int32)) 1)
  show own_GoW p e below s _ _ _ _ (T161.setTop (mkF m 85 #[iv p1, iv p2, iv p3, .val (.long q4), .second, .val (.long q5), .second, .val (.long q6), .second, iv ua, iv ub, iv uc, iv ud, iv ue, iv ((((p1.toUInt32 >>> ((5 : Int32) &&& 31).toUInt32).toInt32) &&& (2147483647 : Int32)) % (3 : Int32)), rv b156, .unset, .unset, .unset, .unset, .unset, .unset, .unset, .unset, .unset, .unset, .unset, .unset, .unset] [(.ref b161)]))
  refine own_goW (fun _ k => XS.dup X161.here hx rfl (hb hby at_85) rfl rfl k) ?_
  show own_GoW p e below s _ _ _ _ (T161.setTop (mkF m 86 #[iv p1, iv p2, iv p3, .val (.long q4), .second, .val (.long q5), .second, .val (.long q6), .second, iv ua, iv ub, iv uc, iv ud, iv ue, iv ((((p1.toUInt32 >>> ((5 : Int32) &&& 31).toUInt32).toInt32) &&& (2147483647 : Int32)) % (3 : Int32)), rv b156, .unset, .unset, .unset, .unset, .unset, .unset, .unset, .unset, .unset, .unset, .unset, .unset, .unset] [(.ref b161), (.ref b161)]))
  refine own_goW (fun _ k => XS.iconst X161.here hx rfl (hb hby at_86) k) ?_
  show own_GoW p e below s _ _ _ _ (T161.setTop (mkF m 87 #[iv p1, iv p2, iv p3, .val (.long q4), .second, .val (.long q5), .second, .val (.long q6), .second, iv ua, iv ub, iv uc, iv ud, iv ue, iv ((((p1.toUInt32 >>> ((5 : Int32) &&& 31).toUInt32).toInt32) &&& (2147483647 : Int32)) % (3 : Int32)), rv b156, .unset, .unset, .unset, .unset, .unset, .unset, .unset, .unset, .unset, .unset, .unset, .unset, .unset] [(.int (0 : Int32)), (.ref b161), (.ref b161)]))
  refine own_goW (fun _ k => XS.iloadN X161.here hx rfl (hb hby at_87) rfl k) ?_
  show own_GoW p e below s _ _ _ _ (T161.setTop (mkF m 88 #[iv p1, iv p2, iv p3, .val (.long q4), .second, .val (.long q5), .second, .val (.long q6), .second, iv ua, iv ub, iv uc, iv ud, iv ue, iv ((((p1.toUInt32 >>> ((5 : Int32) &&& 31).toUInt32).toInt32) &&& (2147483647 : Int32)) % (3 : Int32)), rv b156, .unset, .unset, .unset, .unset, .unset, .unset, .unset, .unset, .unset, .unset, .unset, .unset, .unset] [(.int p2), (.int (0 : Int32)), (.ref b161), (.ref b161)]))
  refine own_goW (fun _ k => XS.sipush X161.here hx rfl (hb hby at_88) k) ?_
  show own_GoW p e below s _ _ _ _ (T161.setTop (mkF m 91 #[iv p1, iv p2, iv p3, .val (.long q4), .second, .val (.long q5), .second, .val (.long q6), .second, iv ua, iv ub, iv uc, iv ud, iv ue, iv ((((p1.toUInt32 >>> ((5 : Int32) &&& 31).toUInt32).toInt32) &&& (2147483647 : Int32)) % (3 : Int32)), rv b156, .unset, .unset, .unset, .unset, .unset, .unset, .unset, .unset, .unset, .unset, .unset, .unset, .unset] [(.int (255 : Int32)), (.int p2), (.int (0 : Int32)), (.ref b161), (.ref b161)]))
  refine own_goW (fun _ k => XS.iand X161.here hx rfl (hb hby at_91) rfl k) ?_
  show own_GoW p e below s _ _ _ _ (T161.setTop (mkF m 92 #[iv p1, iv p2, iv p3, .val (.long q4), .second, .val (.long q5), .second, .val (.long q6), .second, iv ua, iv ub, iv uc, iv ud, iv ue, iv ((((p1.toUInt32 >>> ((5 : Int32) &&& 31).toUInt32).toInt32) &&& (2147483647 : Int32)) % (3 : Int32)), rv b156, .unset, .unset, .unset, .unset, .unset, .unset, .unset, .unset, .unset, .unset, .unset, .unset, .unset] [(.int (p2 &&& (255 : Int32))), (.int (0 : Int32)), (.ref b161), (.ref b161)]))
  refine own_goW (fun _ k => XS.i2c X161.here hx rfl (hb hby at_92) rfl k) ?_
  show own_GoW p e below s _ _ _ _ (T161.setTop (mkF m 93 #[iv p1, iv p2, iv p3, .val (.long q4), .second, .val (.long q5), .second, .val (.long q6), .second, iv ua, iv ub, iv uc, iv ud, iv ue, iv ((((p1.toUInt32 >>> ((5 : Int32) &&& 31).toUInt32).toInt32) &&& (2147483647 : Int32)) % (3 : Int32)), rv b156, .unset, .unset, .unset, .unset, .unset, .unset, .unset, .unset, .unset, .unset, .unset, .unset, .unset] [(.int ((p2 &&& (255 : Int32)).toUInt32.toUInt16.toUInt32.toInt32)), (.int (0 : Int32)), (.ref b161), (.ref b161)]))
  rw [i2c_mask p2]
  show own_GoW p e below s _ _ _ _ (T161.setTop (mkF m 93 #[iv p1, iv p2, iv p3, .val (.long q4), .second, .val (.long q5), .second, .val (.long q6), .second, iv ua, iv ub, iv uc, iv ud, iv ue, iv ((((p1.toUInt32 >>> ((5 : Int32) &&& 31).toUInt32).toInt32) &&& (2147483647 : Int32)) % (3 : Int32)), rv b156, .unset, .unset, .unset, .unset, .unset, .unset, .unset, .unset, .unset, .unset, .unset, .unset, .unset] [(.int (p2 &&& (255 : Int32))), (.int (0 : Int32)), (.ref b161), (.ref b161)]))
  obtain ⟨cl167, Ar167, q167, S167, M167, P167, G167⟩ := id f166
  have hin167 : ¬ ((0 : Int32) < 0 ∨ cl167.slots.size ≤ ((0 : Int32)).toNatClampNeg) := inb_of S167 ⟨by decide, by decide⟩
  obtain ⟨T168, h168, X168, e168, W168, st168⟩ := stC X161 hx hZ e161 Ar167 (j := (0 : Int32)) hin167 (g := (mkF m 93 #[iv p1, iv p2, iv p3, .val (.long q4), .second, .val (.long q5), .second, .val (.long q6), .second, iv ua, iv ub, iv uc, iv ud, iv ue, iv ((((p1.toUInt32 >>> ((5 : Int32) &&& 31).toUInt32).toInt32) &&& (2147483647 : Int32)) % (3 : Int32)), rv b156, .unset, .unset, .unset, .unset, .unset, .unset, .unset, .unset, .unset, .unset, .unset, .unset, .unset] [(.int (p2 &&& (255 : Int32))), (.int (0 : Int32)), (.ref b161), (.ref b161)])) rfl rfl (hb hby at_93)
  refine own_goW st168 ?_
  clear st168 X161 e161
  rw [own_narM p2] at W168
  have f169 : Arv Z h168 b161 k161 .char (1 : Int32) [(.int (p2 &&& (255 : Int32)))] (.int (0 : Int32)) := Arv.set Ar167 q167 S167 M167 P167 G167 (by have q := fits_nar_char (p2 &&& (255 : Int32)); rw [own_narM p2] at q; exact q) W168 0 rfl (Nat.le_of_ble_eq_true rfl)
  replace N0 := Fr.snoc X168 N0 big163
  replace hJ := own_Jwr hZ hJ W168 (own_farV f166 (by decide) (ow3 hw))
  replace f160 := f160.other W168 ne162
  clear f166
  replace O0 := own_oldWr O0 W168 big163
  replace K0 := K0.wr W168 (Or.inr sz164)
  replace K1 := K1.wr W168 (Or.inr sz165)
  replace hS := own_since hS (Nat.le_of_eq W168.size.symm)
  clear W168
  clear Ar167 q167 S167 M167 P167 G167 hin167
  show own_GoW p e below s _ _ _ _ (T168.setTop (mkF m 94 #[iv p1, iv p2, iv p3, .val (.long q4), .second, .val (.long q5), .second, .val (.long q6), .second, iv ua, iv ub, iv uc, iv ud, iv ue, iv ((((p1.toUInt32 >>> ((5 : Int32) &&& 31).toUInt32).toInt32) &&& (2147483647 : Int32)) % (3 : Int32)), rv b156, .unset, .unset, .unset, .unset, .unset, .unset, .unset, .unset, .unset, .unset, .unset, .unset, .unset] [(.ref b161)]))
  refine own_goW (fun _ k => XS.astore X168.here hx rfl (hb hby at_94) rfl rfl (l' := #[iv p1, iv p2, iv p3, .val (.long q4), .second, .val (.long q5), .second, .val (.long q6), .second, iv ua, iv ub, iv uc, iv ud, iv ue, iv ((((p1.toUInt32 >>> ((5 : Int32) &&& 31).toUInt32).toInt32) &&& (2147483647 : Int32)) % (3 : Int32)), rv b156, rv b161, .unset, .unset, .unset, .unset, .unset, .unset, .unset, .unset, .unset, .unset, .unset, .unset]) rfl k) ?_
  show own_GoW p e below s _ _ _ _ (T168.setTop (mkF m 96 #[iv p1, iv p2, iv p3, .val (.long q4), .second, .val (.long q5), .second, .val (.long q6), .second, iv ua, iv ub, iv uc, iv ud, iv ue, iv ((((p1.toUInt32 >>> ((5 : Int32) &&& 31).toUInt32).toInt32) &&& (2147483647 : Int32)) % (3 : Int32)), rv b156, rv b161, .unset, .unset, .unset, .unset, .unset, .unset, .unset, .unset, .unset, .unset, .unset, .unset] []))
  refine own_goW (fun _ k => XS.iconst X168.here hx rfl (hb hby at_96) k) ?_
  show own_GoW p e below s _ _ _ _ (T168.setTop (mkF m 97 #[iv p1, iv p2, iv p3, .val (.long q4), .second, .val (.long q5), .second, .val (.long q6), .second, iv ua, iv ub, iv uc, iv ud, iv ue, iv ((((p1.toUInt32 >>> ((5 : Int32) &&& 31).toUInt32).toInt32) &&& (2147483647 : Int32)) % (3 : Int32)), rv b156, rv b161, .unset, .unset, .unset, .unset, .unset, .unset, .unset, .unset, .unset, .unset, .unset, .unset] [(.int (2 : Int32))]))
  obtain ⟨T170, h170, k170, X170, e170, E170, A170, st170⟩ := newP (aty := .char) X168 hx hZ (ow1 hw) e168 (g := (mkF m 97 #[iv p1, iv p2, iv p3, .val (.long q4), .second, .val (.long q5), .second, .val (.long q6), .second, iv ua, iv ub, iv uc, iv ud, iv ue, iv ((((p1.toUInt32 >>> ((5 : Int32) &&& 31).toUInt32).toInt32) &&& (2147483647 : Int32)) % (3 : Int32)), rv b156, rv b161, .unset, .unset, .unset, .unset, .unset, .unset, .unset, .unset, .unset, .unset, .unset, .unset] [(.int (2 : Int32))])) rfl (hb hby at_97) rfl (by decide) (cap := 2) (by decide) (by decide) (by show _ ≤ 48; omega) (by show _ ≤ 1216; omega)
  obtain ⟨b170, g170⟩ : ∃ z, z = h168.size := ⟨_, rfl⟩
  rw [← g170] at A170 st170
  refine own_goW st170 ?_
  clear st170 X168 e168
  have ge170 := Nat.le_of_eq g170.symm
  have ne171 : b156 ≠ b170 := Nat.ne_of_lt (Nat.lt_of_lt_of_le f160.lt ge170)
  have ne172 : b161 ≠ b170 := Nat.ne_of_lt (Nat.lt_of_lt_of_le f169.lt ge170)
  have big173 : Z.heap.size ≤ b170 := Nat.le_trans O0.1 ge170
  have sz174 : h0.size ≤ b170 := Nat.le_trans K0.1 ge170
  have sz175 : hs1.size ≤ b170 := Nat.le_trans K1.1 ge170
  replace f160 := f160.ext E170
  replace f169 := f169.ext E170
  replace O0 := own_oldExt O0 E170
  replace K0 := K0.ext E170
  replace K1 := K1.ext E170
  replace hS := own_since hS E170.1
  replace hJ := own_Jext hJ E170
  clear E170
  have f176 : Arv Z h170 b170 k170 .char (2 : Int32) [(.int (0 : Int32)), (.int (0 : Int32))] (.int (0 : Int32)) := (Arv.new A170 (by decide)).pad (pad_rep [] (.int (0 : Int32)) 2)
  show own_GoW p e below s _ _ _ _ (T170.setTop (mkF m 99 #[iv p1, iv p2, iv p3, .val (.long q4), .second, .val (.long q5), .second, .val (.long q6), .second, iv ua, iv ub, iv uc, iv ud, iv ue, iv ((((p1.toUInt32 >>> ((5 : Int32) &&& 31).toUInt32).toInt32) &&& (2147483647 : Int32)) % (3 : Int32)), rv b156, rv b161, .unset, .unset, .unset, .unset, .unset, .unset, .unset, .unset, .unset, .unset, .unset, .unset] [(.ref b170)]))
  refine own_goW (fun _ k => XS.dup X170.here hx rfl (hb hby at_99) rfl rfl k) ?_
  show own_GoW p e below s _ _ _ _ (T170.setTop (mkF m 100 #[iv p1, iv p2, iv p3, .val (.long q4), .second, .val (.long q5), .second, .val (.long q6), .second, iv ua, iv ub, iv uc, iv ud, iv ue, iv ((((p1.toUInt32 >>> ((5 : Int32) &&& 31).toUInt32).toInt32) &&& (2147483647 : Int32)) % (3 : Int32)), rv b156, rv b161, .unset, .unset, .unset, .unset, .unset, .unset, .unset, .unset, .unset, .unset, .unset, .unset] [(.ref b170), (.ref b170)]))
  refine own_goW (fun _ k => XS.iconst X170.here hx rfl (hb hby at_100) k) ?_
  show own_GoW p e below s _ _ _ _ (T170.setTop (mkF m 101 #[iv p1, iv p2, iv p3, .val (.long q4), .second, .val (.long q5), .second, .val (.long q6), .second, iv ua, iv ub, iv uc, iv ud, iv ue, iv ((((p1.toUInt32 >>> ((5 : Int32) &&& 31).toUInt32).toInt32) &&& (2147483647 : Int32)) % (3 : Int32)), rv b156, rv b161, .unset, .unset, .unset, .unset, .unset, .unset, .unset, .unset, .unset, .unset, .unset, .unset] [(.int (0 : Int32)), (.ref b170), (.ref b170)]))
  refine own_goW (fun _ k => XS.iloadN X170.here hx rfl (hb hby at_101) rfl k) ?_
  show own_GoW p e below s _ _ _ _ (T170.setTop (mkF m 102 #[iv p1, iv p2, iv p3, .val (.long q4), .second, .val (.long q5), .second, .val (.long q6), .second, iv ua, iv ub, iv uc, iv ud, iv ue, iv ((((p1.toUInt32 >>> ((5 : Int32) &&& 31).toUInt32).toInt32) &&& (2147483647 : Int32)) % (3 : Int32)), rv b156, rv b161, .unset, .unset, .unset, .unset, .unset, .unset, .unset, .unset, .unset, .unset, .unset, .unset] [(.int p2), (.int (0 : Int32)), (.ref b170), (.ref b170)]))
  refine own_goW (fun _ k => XS.sipush X170.here hx rfl (hb hby at_102) k) ?_
  show own_GoW p e below s _ _ _ _ (T170.setTop (mkF m 105 #[iv p1, iv p2, iv p3, .val (.long q4), .second, .val (.long q5), .second, .val (.long q6), .second, iv ua, iv ub, iv uc, iv ud, iv ue, iv ((((p1.toUInt32 >>> ((5 : Int32) &&& 31).toUInt32).toInt32) &&& (2147483647 : Int32)) % (3 : Int32)), rv b156, rv b161, .unset, .unset, .unset, .unset, .unset, .unset, .unset, .unset, .unset, .unset, .unset, .unset] [(.int (255 : Int32)), (.int p2), (.int (0 : Int32)), (.ref b170), (.ref b170)]))
  refine own_goW (fun _ k => XS.iand X170.here hx rfl (hb hby at_105) rfl k) ?_
  show own_GoW p e below s _ _ _ _ (T170.setTop (mkF m 106 #[iv p1, iv p2, iv p3, .val (.long q4), .second, .val (.long q5), .second, .val (.long q6), .second, iv ua, iv ub, iv uc, iv ud, iv ue, iv ((((p1.toUInt32 >>> ((5 : Int32) &&& 31).toUInt32).toInt32) &&& (2147483647 : Int32)) % (3 : Int32)), rv b156, rv b161, .unset, .unset, .unset, .unset, .unset, .unset, .unset, .unset, .unset, .unset, .unset, .unset] [(.int (p2 &&& (255 : Int32))), (.int (0 : Int32)), (.ref b170), (.ref b170)]))
  refine own_goW (fun _ k => XS.i2c X170.here hx rfl (hb hby at_106) rfl k) ?_
  show own_GoW p e below s _ _ _ _ (T170.setTop (mkF m 107 #[iv p1, iv p2, iv p3, .val (.long q4), .second, .val (.long q5), .second, .val (.long q6), .second, iv ua, iv ub, iv uc, iv ud, iv ue, iv ((((p1.toUInt32 >>> ((5 : Int32) &&& 31).toUInt32).toInt32) &&& (2147483647 : Int32)) % (3 : Int32)), rv b156, rv b161, .unset, .unset, .unset, .unset, .unset, .unset, .unset, .unset, .unset, .unset, .unset, .unset] [(.int ((p2 &&& (255 : Int32)).toUInt32.toUInt16.toUInt32.toInt32)), (.int (0 : Int32)), (.ref b170), (.ref b170)]))
  rw [i2c_mask p2]
  show own_GoW p e below s _ _ _ _ (T170.setTop (mkF m 107 #[iv p1, iv p2, iv p3, .val (.long q4), .second, .val (.long q5), .second, .val (.long q6), .second, iv ua, iv ub, iv uc, iv ud, iv ue, iv ((((p1.toUInt32 >>> ((5 : Int32) &&& 31).toUInt32).toInt32) &&& (2147483647 : Int32)) % (3 : Int32)), rv b156, rv b161, .unset, .unset, .unset, .unset, .unset, .unset, .unset, .unset, .unset, .unset, .unset, .unset] [(.int (p2 &&& (255 : Int32))), (.int (0 : Int32)), (.ref b170), (.ref b170)]))
  obtain ⟨cl177, Ar177, q177, S177, M177, P177, G177⟩ := id f176
  have hin177 : ¬ ((0 : Int32) < 0 ∨ cl177.slots.size ≤ ((0 : Int32)).toNatClampNeg) := inb_of S177 ⟨by decide, by decide⟩
  obtain ⟨T178, h178, X178, e178, W178, st178⟩ := stC X170 hx hZ e170 Ar177 (j := (0 : Int32)) hin177 (g := (mkF m 107 #[iv p1, iv p2, iv p3, .val (.long q4), .second, .val (.long q5), .second, .val (.long q6), .second, iv ua, iv ub, iv uc, iv ud, iv ue, iv ((((p1.toUInt32 >>> ((5 : Int32) &&& 31).toUInt32).toInt32) &&& (2147483647 : Int32)) % (3 : Int32)), rv b156, rv b161, .unset, .unset, .unset, .unset, .unset, .unset, .unset, .unset, .unset, .unset, .unset, .unset] [(.int (p2 &&& (255 : Int32))), (.int (0 : Int32)), (.ref b170), (.ref b170)])) rfl rfl (hb hby at_107)
  refine own_goW st178 ?_
  clear st178 X170 e170
  rw [own_narM p2] at W178
  have f179 : Arv Z h178 b170 k170 .char (2 : Int32) [(.int (p2 &&& (255 : Int32))), (.int (0 : Int32))] (.int (0 : Int32)) := Arv.set Ar177 q177 S177 M177 P177 G177 (by have q := fits_nar_char (p2 &&& (255 : Int32)); rw [own_narM p2] at q; exact q) W178 0 rfl (Nat.le_of_ble_eq_true rfl)
  replace N0 := Fr.snoc X178 N0 big173
  replace hJ := own_Jwr hZ hJ W178 (own_farV f176 (by decide) (ow3 hw))
  replace f160 := f160.other W178 ne171
  replace f169 := f169.other W178 ne172
  clear f176
  replace O0 := own_oldWr O0 W178 big173
  replace K0 := K0.wr W178 (Or.inr sz174)
  replace K1 := K1.wr W178 (Or.inr sz175)
  replace hS := own_since hS (Nat.le_of_eq W178.size.symm)
  clear W178
  clear Ar177 q177 S177 M177 P177 G177 hin177
  show own_GoW p e below s _ _ _ _ (T178.setTop (mkF m 108 #[iv p1, iv p2, iv p3, .val (.long q4), .second, .val (.long q5), .second, .val (.long q6), .second, iv ua, iv ub, iv uc, iv ud, iv ue, iv ((((p1.toUInt32 >>> ((5 : Int32) &&& 31).toUInt32).toInt32) &&& (2147483647 : Int32)) % (3 : Int32)), rv b156, rv b161, .unset, .unset, .unset, .unset, .unset, .unset, .unset, .unset, .unset, .unset, .unset, .unset] [(.ref b170)]))
  refine own_goW (fun _ k => XS.dup X178.here hx rfl (hb hby at_108) rfl rfl k) ?_
  show own_GoW p e below s _ _ _ _ (T178.setTop (mkF m 109 #[iv p1, iv p2, iv p3, .val (.long q4), .second, .val (.long q5), .second, .val (.long q6), .second, iv ua, iv ub, iv uc, iv ud, iv ue, iv ((((p1.toUInt32 >>> ((5 : Int32) &&& 31).toUInt32).toInt32) &&& (2147483647 : Int32)) % (3 : Int32)), rv b156, rv b161, .unset, .unset, .unset, .unset, .unset, .unset, .unset, .unset, .unset, .unset, .unset, .unset] [(.ref b170), (.ref b170)]))
  refine own_goW (fun _ k => XS.iconst X178.here hx rfl (hb hby at_109) k) ?_
  show own_GoW p e below s _ _ _ _ (T178.setTop (mkF m 110 #[iv p1, iv p2, iv p3, .val (.long q4), .second, .val (.long q5), .second, .val (.long q6), .second, iv ua, iv ub, iv uc, iv ud, iv ue, iv ((((p1.toUInt32 >>> ((5 : Int32) &&& 31).toUInt32).toInt32) &&& (2147483647 : Int32)) % (3 : Int32)), rv b156, rv b161, .unset, .unset, .unset, .unset, .unset, .unset, .unset, .unset, .unset, .unset, .unset, .unset] [(.int (1 : Int32)), (.ref b170), (.ref b170)]))
  refine own_goW (fun _ k => XS.iloadN X178.here hx rfl (hb hby at_110) rfl k) ?_
  show own_GoW p e below s _ _ _ _ (T178.setTop (mkF m 111 #[iv p1, iv p2, iv p3, .val (.long q4), .second, .val (.long q5), .second, .val (.long q6), .second, iv ua, iv ub, iv uc, iv ud, iv ue, iv ((((p1.toUInt32 >>> ((5 : Int32) &&& 31).toUInt32).toInt32) &&& (2147483647 : Int32)) % (3 : Int32)), rv b156, rv b161, .unset, .unset, .unset, .unset, .unset, .unset, .unset, .unset, .unset, .unset, .unset, .unset] [(.int p3), (.int (1 : Int32)), (.ref b170), (.ref b170)]))
  refine own_goW (fun _ k => XS.sipush X178.here hx rfl (hb hby at_111) k) ?_
  show own_GoW p e below s _ _ _ _ (T178.setTop (mkF m 114 #[iv p1, iv p2, iv p3, .val (.long q4), .second, .val (.long q5), .second, .val (.long q6), .second, iv ua, iv ub, iv uc, iv ud, iv ue, iv ((((p1.toUInt32 >>> ((5 : Int32) &&& 31).toUInt32).toInt32) &&& (2147483647 : Int32)) % (3 : Int32)), rv b156, rv b161, .unset, .unset, .unset, .unset, .unset, .unset, .unset, .unset, .unset, .unset, .unset, .unset] [(.int (255 : Int32)), (.int p3), (.int (1 : Int32)), (.ref b170), (.ref b170)]))
  refine own_goW (fun _ k => XS.iand X178.here hx rfl (hb hby at_114) rfl k) ?_
  show own_GoW p e below s _ _ _ _ (T178.setTop (mkF m 115 #[iv p1, iv p2, iv p3, .val (.long q4), .second, .val (.long q5), .second, .val (.long q6), .second, iv ua, iv ub, iv uc, iv ud, iv ue, iv ((((p1.toUInt32 >>> ((5 : Int32) &&& 31).toUInt32).toInt32) &&& (2147483647 : Int32)) % (3 : Int32)), rv b156, rv b161, .unset, .unset, .unset, .unset, .unset, .unset, .unset, .unset, .unset, .unset, .unset, .unset] [(.int (p3 &&& (255 : Int32))), (.int (1 : Int32)), (.ref b170), (.ref b170)]))
  refine own_goW (fun _ k => XS.i2c X178.here hx rfl (hb hby at_115) rfl k) ?_
  show own_GoW p e below s _ _ _ _ (T178.setTop (mkF m 116 #[iv p1, iv p2, iv p3, .val (.long q4), .second, .val (.long q5), .second, .val (.long q6), .second, iv ua, iv ub, iv uc, iv ud, iv ue, iv ((((p1.toUInt32 >>> ((5 : Int32) &&& 31).toUInt32).toInt32) &&& (2147483647 : Int32)) % (3 : Int32)), rv b156, rv b161, .unset, .unset, .unset, .unset, .unset, .unset, .unset, .unset, .unset, .unset, .unset, .unset] [(.int ((p3 &&& (255 : Int32)).toUInt32.toUInt16.toUInt32.toInt32)), (.int (1 : Int32)), (.ref b170), (.ref b170)]))
  rw [i2c_mask p3]
  show own_GoW p e below s _ _ _ _ (T178.setTop (mkF m 116 #[iv p1, iv p2, iv p3, .val (.long q4), .second, .val (.long q5), .second, .val (.long q6), .second, iv ua, iv ub, iv uc, iv ud, iv ue, iv ((((p1.toUInt32 >>> ((5 : Int32) &&& 31).toUInt32).toInt32) &&& (2147483647 : Int32)) % (3 : Int32)), rv b156, rv b161, .unset, .unset, .unset, .unset, .unset, .unset, .unset, .unset, .unset, .unset, .unset, .unset] [(.int (p3 &&& (255 : Int32))), (.int (1 : Int32)), (.ref b170), (.ref b170)]))
  obtain ⟨cl180, Ar180, q180, S180, M180, P180, G180⟩ := id f179
  have hin180 : ¬ ((1 : Int32) < 0 ∨ cl180.slots.size ≤ ((1 : Int32)).toNatClampNeg) := inb_of S180 ⟨by decide, by decide⟩
  obtain ⟨T181, h181, X181, e181, W181, st181⟩ := stC X178 hx hZ e178 Ar180 (j := (1 : Int32)) hin180 (g := (mkF m 116 #[iv p1, iv p2, iv p3, .val (.long q4), .second, .val (.long q5), .second, .val (.long q6), .second, iv ua, iv ub, iv uc, iv ud, iv ue, iv ((((p1.toUInt32 >>> ((5 : Int32) &&& 31).toUInt32).toInt32) &&& (2147483647 : Int32)) % (3 : Int32)), rv b156, rv b161, .unset, .unset, .unset, .unset, .unset, .unset, .unset, .unset, .unset, .unset, .unset, .unset] [(.int (p3 &&& (255 : Int32))), (.int (1 : Int32)), (.ref b170), (.ref b170)])) rfl rfl (hb hby at_116)
  refine own_goW st181 ?_
  clear st181 X178 e178
  rw [own_narM p3] at W181
  have f182 : Arv Z h181 b170 k170 .char (2 : Int32) [(.int (p2 &&& (255 : Int32))), (.int (p3 &&& (255 : Int32)))] (.int (0 : Int32)) := Arv.set Ar180 q180 S180 M180 P180 G180 (by have q := fits_nar_char (p3 &&& (255 : Int32)); rw [own_narM p3] at q; exact q) W181 1 rfl (Nat.le_of_ble_eq_true rfl)
  replace N0 := Fr.snoc X181 N0 big173
  replace hJ := own_Jwr hZ hJ W181 (own_farV f179 (by decide) (ow3 hw))
  replace f160 := f160.other W181 ne171
  replace f169 := f169.other W181 ne172
  clear f179
  replace O0 := own_oldWr O0 W181 big173
  replace K0 := K0.wr W181 (Or.inr sz174)
  replace K1 := K1.wr W181 (Or.inr sz175)
  replace hS := own_since hS (Nat.le_of_eq W181.size.symm)
  clear W181
  clear Ar180 q180 S180 M180 P180 G180 hin180
  show own_GoW p e below s _ _ _ _ (T181.setTop (mkF m 117 #[iv p1, iv p2, iv p3, .val (.long q4), .second, .val (.long q5), .second, .val (.long q6), .second, iv ua, iv ub, iv uc, iv ud, iv ue, iv ((((p1.toUInt32 >>> ((5 : Int32) &&& 31).toUInt32).toInt32) &&& (2147483647 : Int32)) % (3 : Int32)), rv b156, rv b161, .unset, .unset, .unset, .unset, .unset, .unset, .unset, .unset, .unset, .unset, .unset, .unset] [(.ref b170)]))
  refine own_goW (fun _ k => XS.astore X181.here hx rfl (hb hby at_117) rfl rfl (l' := #[iv p1, iv p2, iv p3, .val (.long q4), .second, .val (.long q5), .second, .val (.long q6), .second, iv ua, iv ub, iv uc, iv ud, iv ue, iv ((((p1.toUInt32 >>> ((5 : Int32) &&& 31).toUInt32).toInt32) &&& (2147483647 : Int32)) % (3 : Int32)), rv b156, rv b161, rv b170, .unset, .unset, .unset, .unset, .unset, .unset, .unset, .unset, .unset, .unset, .unset]) rfl k) ?_
  show own_GoW p e below s _ _ _ _ (T181.setTop (mkF m 119 #[iv p1, iv p2, iv p3, .val (.long q4), .second, .val (.long q5), .second, .val (.long q6), .second, iv ua, iv ub, iv uc, iv ud, iv ue, iv ((((p1.toUInt32 >>> ((5 : Int32) &&& 31).toUInt32).toInt32) &&& (2147483647 : Int32)) % (3 : Int32)), rv b156, rv b161, rv b170, .unset, .unset, .unset, .unset, .unset, .unset, .unset, .unset, .unset, .unset, .unset] []))
  refine own_goW (fun _ k => XS.iload X181.here hx rfl (hb hby at_119) rfl k) ?_
  show own_GoW p e below s _ _ _ _ (T181.setTop (mkF m 121 #[iv p1, iv p2, iv p3, .val (.long q4), .second, .val (.long q5), .second, .val (.long q6), .second, iv ua, iv ub, iv uc, iv ud, iv ue, iv ((((p1.toUInt32 >>> ((5 : Int32) &&& 31).toUInt32).toInt32) &&& (2147483647 : Int32)) % (3 : Int32)), rv b156, rv b161, rv b170, .unset, .unset, .unset, .unset, .unset, .unset, .unset, .unset, .unset, .unset, .unset] [(.int ((((p1.toUInt32 >>> ((5 : Int32) &&& 31).toUInt32).toInt32) &&& (2147483647 : Int32)) % (3 : Int32)))]))
  by_cases hc183 : ((((p1.toUInt32 >>> ((5 : Int32) &&& 31).toUInt32).toInt32) &&& (2147483647 : Int32)) % (3 : Int32)) = (0 : Int32)
  · refine own_goW (fun _ k => XS.ifNo X181.here hx rfl (hb hby at_121) rfl ((if0 _ _).trans (teq hc183).2) k) ?_
    show own_GoW p e below s _ _ _ _ (T181.setTop (mkF m 124 #[iv p1, iv p2, iv p3, .val (.long q4), .second, .val (.long q5), .second, .val (.long q6), .second, iv ua, iv ub, iv uc, iv ud, iv ue, iv ((((p1.toUInt32 >>> ((5 : Int32) &&& 31).toUInt32).toInt32) &&& (2147483647 : Int32)) % (3 : Int32)), rv b156, rv b161, rv b170, .unset, .unset, .unset, .unset, .unset, .unset, .unset, .unset, .unset, .unset, .unset] []))
    obtain ⟨T184, h184, X184, e184, E184, A184, D184, -, st184⟩ := newO X181 hx hZ hown (ow2 hw) (ow3 hw) (ow4 hw) e181 (g := (mkF m 124 #[iv p1, iv p2, iv p3, .val (.long q4), .second, .val (.long q5), .second, .val (.long q6), .second, iv ua, iv ub, iv uc, iv ud, iv ue, iv ((((p1.toUInt32 >>> ((5 : Int32) &&& 31).toUInt32).toInt32) &&& (2147483647 : Int32)) % (3 : Int32)), rv b156, rv b161, rv b170, .unset, .unset, .unset, .unset, .unset, .unset, .unset, .unset, .unset, .unset, .unset] [])) rfl (hb hby at_124) (by show _ ≤ 48; omega) (by show _ ≤ 1216; omega)
    obtain ⟨b184, g184⟩ : ∃ z, z = h181.size := ⟨_, rfl⟩
    rw [← g184] at A184 D184 st184
    refine own_goW st184 ?_
    clear st184 X181 e181
    have ge184 := Nat.le_of_eq g184.symm
    have ne185 : b156 ≠ b184 := Nat.ne_of_lt (Nat.lt_of_lt_of_le f160.lt ge184)
    have ne186 : b161 ≠ b184 := Nat.ne_of_lt (Nat.lt_of_lt_of_le f169.lt ge184)
    have ne187 : b170 ≠ b184 := Nat.ne_of_lt (Nat.lt_of_lt_of_le f182.lt ge184)
    have big188 : Z.heap.size ≤ b184 := Nat.le_trans O0.1 ge184
    have sz189 : h0.size ≤ b184 := Nat.le_trans K0.1 ge184
    have sz190 : hs1.size ≤ b184 := Nat.le_trans K1.1 ge184
    replace f160 := f160.ext E184
    replace f169 := f169.ext E184
    replace f182 := f182.ext E184
    replace O0 := own_oldExt O0 E184
    replace K0 := K0.ext E184
    replace K1 := K1.ext E184
    replace hS := own_since hS E184.1
    replace hJ := own_Jext hJ E184
    clear E184
    have f191 : Fld Z h184 b184 "java/lang/String" "value" "[B" .null := D184 (Or.inr (ow17 hw)) (ty := (.array .byte)) own_fd0
    have f192 : Fld Z h184 b184 "java/lang/String" "coder" "B" (.int (0 : Int32)) := D184 (Or.inr (ow18 hw)) (ty := .byte) own_fd1
    show own_GoW p e below s _ _ _ _ (T184.setTop (mkF m 127 #[iv p1, iv p2, iv p3, .val (.long q4), .second, .val (.long q5), .second, .val (.long q6), .second, iv ua, iv ub, iv uc, iv ud, iv ue, iv ((((p1.toUInt32 >>> ((5 : Int32) &&& 31).toUInt32).toInt32) &&& (2147483647 : Int32)) % (3 : Int32)), rv b156, rv b161, rv b170, .unset, .unset, .unset, .unset, .unset, .unset, .unset, .unset, .unset, .unset, .unset] [(.ref b184)]))
    refine own_goW (fun _ k => XS.dup X184.here hx rfl (hb hby at_127) rfl rfl k) ?_
    show own_GoW p e below s _ _ _ _ (T184.setTop (mkF m 128 #[iv p1, iv p2, iv p3, .val (.long q4), .second, .val (.long q5), .second, .val (.long q6), .second, iv ua, iv ub, iv uc, iv ud, iv ue, iv ((((p1.toUInt32 >>> ((5 : Int32) &&& 31).toUInt32).toInt32) &&& (2147483647 : Int32)) % (3 : Int32)), rv b156, rv b161, rv b170, .unset, .unset, .unset, .unset, .unset, .unset, .unset, .unset, .unset, .unset, .unset] [(.ref b184), (.ref b184)]))
    refine own_goW (fun _ k => XS.aload X184.here hx rfl (hb hby at_128) rfl rfl k) ?_
    show own_GoW p e below s _ _ _ _ (T184.setTop (mkF m 130 #[iv p1, iv p2, iv p3, .val (.long q4), .second, .val (.long q5), .second, .val (.long q6), .second, iv ua, iv ub, iv uc, iv ud, iv ue, iv ((((p1.toUInt32 >>> ((5 : Int32) &&& 31).toUInt32).toInt32) &&& (2147483647 : Int32)) % (3 : Int32)), rv b156, rv b161, rv b170, .unset, .unset, .unset, .unset, .unset, .unset, .unset, .unset, .unset, .unset, .unset] [(.ref b156), (.ref b184), (.ref b184)]))
    obtain ⟨v193, T193, L193, X193, hSn, hZn, hownn, hQ193, hJn, st193⟩ := own_callIW (y := (⟨"java/lang/String", "<init>", "([C)V"⟩ : MethodName)) X184 hS hL hJ hx hZ hown (ow5 hw) (ow6 hw) (ow4 hw) (ow7 hw) (rm_st1E l Z a0 hw oCS oCz oCa oBx [] b184 b156 k156 h184 O0 A184 f191 f192 f160 big188) 1 2 4 rfl (by show _ ≤ 48; omega) (by show _ ≤ 1216; omega) e184 (g := (mkF m 130 #[iv p1, iv p2, iv p3, .val (.long q4), .second, .val (.long q5), .second, .val (.long q6), .second, iv ua, iv ub, iv uc, iv ud, iv ue, iv ((((p1.toUInt32 >>> ((5 : Int32) &&& 31).toUInt32).toInt32) &&& (2147483647 : Int32)) % (3 : Int32)), rv b156, rv b161, rv b170, .unset, .unset, .unset, .unset, .unset, .unset, .unset, .unset, .unset, .unset, .unset] [(.ref b156), (.ref b184), (.ref b184)])) rfl (by rw [hml]; rfl) b184 [(.ref b156)] [(.ref b184)] (lenOf own_pd_9 rfl) rfl rfl (hb hby at_130)
    replace hS := hSn
    replace hZ := hZn
    replace hown := hownn
    replace hJ := hJn
    clear hSn hZn hownn hJn
    obtain ⟨rfl, Nc196, Kc195, f194⟩ := hQ193
    refine own_goW st193 ?_
    clear st193 X184 e184
    replace N0 := Fr.app N0 Nc196
    clear Nc196
    replace f160 := f160.keep Kc195 (ninS ne185 nin0)
    replace f169 := f169.keep Kc195 (ninS ne186 nin0)
    replace f182 := f182.keep Kc195 (ninS ne187 nin0)
    replace A184 := A184.keep Kc195
    clear f191
    clear f192
    replace O0 := own_oldKeep O0 Kc195 (allS big188 all0)
    replace K0 := K0.trans Kc195 (allS (Or.inr sz189) all0)
    replace K1 := K1.trans Kc195 (allS (Or.inr sz190) all0)
    clear Kc195
    show own_GoW p e below s _ _ _ _ (T193.setTop (mkF m 133 #[iv p1, iv p2, iv p3, .val (.long q4), .second, .val (.long q5), .second, .val (.long q6), .second, iv ua, iv ub, iv uc, iv ud, iv ue, iv ((((p1.toUInt32 >>> ((5 : Int32) &&& 31).toUInt32).toInt32) &&& (2147483647 : Int32)) % (3 : Int32)), rv b156, rv b161, rv b170, .unset, .unset, .unset, .unset, .unset, .unset, .unset, .unset, .unset, .unset, .unset] [(.ref b184)]))
    refine own_goW (fun _ k => XS.goto X193.here hx rfl (pc0 := 133) (pc' := 163) rfl (hb hby at_133) (by decide) (by decide) k) ?_
    show own_GoW p e below s _ _ _ _ (T193.setTop (mkF m 163 #[iv p1, iv p2, iv p3, .val (.long q4), .second, .val (.long q5), .second, .val (.long q6), .second, iv ua, iv ub, iv uc, iv ud, iv ue, iv ((((p1.toUInt32 >>> ((5 : Int32) &&& 31).toUInt32).toInt32) &&& (2147483647 : Int32)) % (3 : Int32)), rv b156, rv b161, rv b170, .unset, .unset, .unset, .unset, .unset, .unset, .unset, .unset, .unset, .unset, .unset] [(.ref b184)]))
    exact sg_s163 hw oCS oCz oCa oBx p1 p2 p3 q4 q5 q6 ua ub uc ud ue ((((p1.toUInt32 >>> ((5 : Int32) &&& 31).toUInt32).toInt32) &&& (2147483647 : Int32)) % (3 : Int32)) (rv b156 : Slot) (rv b161 : Slot) (rv b170 : Slot) b184 h0 T193.heap X193 hS hL hJ hx hby hml hret hlk hZ hown hnm (rfl : T193.heap = T193.heap) N0 O0 K0 f194 (by omega) (by omega)
  · refine own_goW (fun _ k => XS.ifYes X181.here hx rfl (pc0 := 121) (pc' := 136) rfl (hb hby at_121) rfl ((if0 _ _).trans (feq hc183).2) (by decide) (by decide) k) ?_
    show own_GoW p e below s _ _ _ _ (T181.setTop (mkF m 136 #[iv p1, iv p2, iv p3, .val (.long q4), .second, .val (.long q5), .second, .val (.long q6), .second, iv ua, iv ub, iv uc, iv ud, iv ue, iv ((((p1.toUInt32 >>> ((5 : Int32) &&& 31).toUInt32).toInt32) &&& (2147483647 : Int32)) % (3 : Int32)), rv b156, rv b161, rv b170, .unset, .unset, .unset, .unset, .unset, .unset, .unset, .unset, .unset, .unset, .unset] []))
    refine own_goW (fun _ k => XS.iload X181.here hx rfl (hb hby at_136) rfl k) ?_
    show own_GoW p e below s _ _ _ _ (T181.setTop (mkF m 138 #[iv p1, iv p2, iv p3, .val (.long q4), .second, .val (.long q5), .second, .val (.long q6), .second, iv ua, iv ub, iv uc, iv ud, iv ue, iv ((((p1.toUInt32 >>> ((5 : Int32) &&& 31).toUInt32).toInt32) &&& (2147483647 : Int32)) % (3 : Int32)), rv b156, rv b161, rv b170, .unset, .unset, .unset, .unset, .unset, .unset, .unset, .unset, .unset, .unset, .unset] [(.int ((((p1.toUInt32 >>> ((5 : Int32) &&& 31).toUInt32).toInt32) &&& (2147483647 : Int32)) % (3 : Int32)))]))
    refine own_goW (fun _ k => XS.iconst X181.here hx rfl (hb hby at_138) k) ?_
    show own_GoW p e below s _ _ _ _ (T181.setTop (mkF m 139 #[iv p1, iv p2, iv p3, .val (.long q4), .second, .val (.long q5), .second, .val (.long q6), .second, iv ua, iv ub, iv uc, iv ud, iv ue, iv ((((p1.toUInt32 >>> ((5 : Int32) &&& 31).toUInt32).toInt32) &&& (2147483647 : Int32)) % (3 : Int32)), rv b156, rv b161, rv b170, .unset, .unset, .unset, .unset, .unset, .unset, .unset, .unset, .unset, .unset, .unset] [(.int (1 : Int32)), (.int ((((p1.toUInt32 >>> ((5 : Int32) &&& 31).toUInt32).toInt32) &&& (2147483647 : Int32)) % (3 : Int32)))]))
    by_cases hc197 : ((((p1.toUInt32 >>> ((5 : Int32) &&& 31).toUInt32).toInt32) &&& (2147483647 : Int32)) % (3 : Int32)) = (1 : Int32)
    · refine own_goW (fun _ k => XS.icmpNo X181.here hx rfl (hb hby at_139) rfl (teq hc197).2 k) ?_
      show own_GoW p e below s _ _ _ _ (T181.setTop (mkF m 142 #[iv p1, iv p2, iv p3, .val (.long q4), .second, .val (.long q5), .second, .val (.long q6), .second, iv ua, iv ub, iv uc, iv ud, iv ue, iv ((((p1.toUInt32 >>> ((5 : Int32) &&& 31).toUInt32).toInt32) &&& (2147483647 : Int32)) % (3 : Int32)), rv b156, rv b161, rv b170, .unset, .unset, .unset, .unset, .unset, .unset, .unset, .unset, .unset, .unset, .unset] []))
      obtain ⟨T198, h198, X198, e198, E198, A198, D198, -, st198⟩ := newO X181 hx hZ hown (ow2 hw) (ow3 hw) (ow4 hw) e181 (g := (mkF m 142 #[iv p1, iv p2, iv p3, .val (.long q4), .second, .val (.long q5), .second, .val (.long q6), .second, iv ua, iv ub, iv uc, iv ud, iv ue, iv ((((p1.toUInt32 >>> ((5 : Int32) &&& 31).toUInt32).toInt32) &&& (2147483647 : Int32)) % (3 : Int32)), rv b156, rv b161, rv b170, .unset, .unset, .unset, .unset, .unset, .unset, .unset, .unset, .unset, .unset, .unset] [])) rfl (hb hby at_142) (by show _ ≤ 48; omega) (by show _ ≤ 1216; omega)
      obtain ⟨b198, g198⟩ : ∃ z, z = h181.size := ⟨_, rfl⟩
      rw [← g198] at A198 D198 st198
      refine own_goW st198 ?_
      clear st198 X181 e181
      have ge198 := Nat.le_of_eq g198.symm
      have ne199 : b156 ≠ b198 := Nat.ne_of_lt (Nat.lt_of_lt_of_le f160.lt ge198)
      have ne200 : b161 ≠ b198 := Nat.ne_of_lt (Nat.lt_of_lt_of_le f169.lt ge198)
      have ne201 : b170 ≠ b198 := Nat.ne_of_lt (Nat.lt_of_lt_of_le f182.lt ge198)
      have big202 : Z.heap.size ≤ b198 := Nat.le_trans O0.1 ge198
      have sz203 : h0.size ≤ b198 := Nat.le_trans K0.1 ge198
      have sz204 : hs1.size ≤ b198 := Nat.le_trans K1.1 ge198
      replace f160 := f160.ext E198
      replace f169 := f169.ext E198
      replace f182 := f182.ext E198
      replace O0 := own_oldExt O0 E198
      replace K0 := K0.ext E198
      replace K1 := K1.ext E198
      replace hS := own_since hS E198.1
      replace hJ := own_Jext hJ E198
      clear E198
      have f205 : Fld Z h198 b198 "java/lang/String" "value" "[B" .null := D198 (Or.inr (ow17 hw)) (ty := (.array .byte)) own_fd0
      have f206 : Fld Z h198 b198 "java/lang/String" "coder" "B" (.int (0 : Int32)) := D198 (Or.inr (ow18 hw)) (ty := .byte) own_fd1
      show own_GoW p e below s _ _ _ _ (T198.setTop (mkF m 145 #[iv p1, iv p2, iv p3, .val (.long q4), .second, .val (.long q5), .second, .val (.long q6), .second, iv ua, iv ub, iv uc, iv ud, iv ue, iv ((((p1.toUInt32 >>> ((5 : Int32) &&& 31).toUInt32).toInt32) &&& (2147483647 : Int32)) % (3 : Int32)), rv b156, rv b161, rv b170, .unset, .unset, .unset, .unset, .unset, .unset, .unset, .unset, .unset, .unset, .unset] [(.ref b198)]))
      refine own_goW (fun _ k => XS.dup X198.here hx rfl (hb hby at_145) rfl rfl k) ?_
      show own_GoW p e below s _ _ _ _ (T198.setTop (mkF m 146 #[iv p1, iv p2, iv p3, .val (.long q4), .second, .val (.long q5), .second, .val (.long q6), .second, iv ua, iv ub, iv uc, iv ud, iv ue, iv ((((p1.toUInt32 >>> ((5 : Int32) &&& 31).toUInt32).toInt32) &&& (2147483647 : Int32)) % (3 : Int32)), rv b156, rv b161, rv b170, .unset, .unset, .unset, .unset, .unset, .unset, .unset, .unset, .unset, .unset, .unset] [(.ref b198), (.ref b198)]))
      refine own_goW (fun _ k => XS.aload X198.here hx rfl (hb hby at_146) rfl rfl k) ?_
      show own_GoW p e below s _ _ _ _ (T198.setTop (mkF m 148 #[iv p1, iv p2, iv p3, .val (.long q4), .second, .val (.long q5), .second, .val (.long q6), .second, iv ua, iv ub, iv uc, iv ud, iv ue, iv ((((p1.toUInt32 >>> ((5 : Int32) &&& 31).toUInt32).toInt32) &&& (2147483647 : Int32)) % (3 : Int32)), rv b156, rv b161, rv b170, .unset, .unset, .unset, .unset, .unset, .unset, .unset, .unset, .unset, .unset, .unset] [(.ref b161), (.ref b198), (.ref b198)]))
      obtain ⟨v207, T207, L207, X207, hQ207, st207⟩ := own_callIB (y := (⟨"java/lang/String", "<init>", "([C)V"⟩ : MethodName)) X198 hx hZ hown (ow5 hw) (ow6 hw) (ow4 hw) (ow7 hw) 1 1 1 (StrChars.Road.backV (W := 1) hZ (own_sw1 hw) (kI := 4) (ow3 hw) (cs := ([(p2 &&& (255 : Int32))] : List Int32)) (bs := ([(p2 &&& (255 : Int32))] : List Int32).map (fun c => c.toInt8.toInt32)) (n := 1) (n0 := Z.heap.size) big202 (Nat.le_trans O0.1 (Nat.le_refl _)) A198 f205 f206 f169 (oCS.ext O0) oCz rfl rfl (by decide) (by decide) (own_cC (own_c8m p2) own_cN) rfl (by decide) (by decide)) rfl (by show _ ≤ 48; omega) (by show _ ≤ 1216; omega) e198 (g := (mkF m 148 #[iv p1, iv p2, iv p3, .val (.long q4), .second, .val (.long q5), .second, .val (.long q6), .second, iv ua, iv ub, iv uc, iv ud, iv ue, iv ((((p1.toUInt32 >>> ((5 : Int32) &&& 31).toUInt32).toInt32) &&& (2147483647 : Int32)) % (3 : Int32)), rv b156, rv b161, rv b170, .unset, .unset, .unset, .unset, .unset, .unset, .unset, .unset, .unset, .unset, .unset] [(.ref b161), (.ref b198), (.ref b198)])) rfl (by rw [hml]; rfl) b198 [(.ref b161)] [(.ref b198)] (lenOf own_pd_9 rfl) rfl rfl (hb hby at_148)
      obtain ⟨rfl, Nc207, Kc207, f1207, f2207, t207, kb207, tb207, ts207, tn207, f3207, f4207⟩ := hQ207
      refine own_goW st207 ?_
      clear st207 X198 e198
      replace N0 := Fr.app N0 Nc207
      clear Nc207
      replace hS := own_since hS Kc207.1
      have ne208 : b156 ≠ t207 := Nat.ne_of_lt (Nat.lt_of_lt_of_le f160.lt ts207)
      have ne209 : b161 ≠ t207 := Nat.ne_of_lt (Nat.lt_of_lt_of_le f169.lt ts207)
      have ne210 : b170 ≠ t207 := Nat.ne_of_lt (Nat.lt_of_lt_of_le f182.lt ts207)
      have ne211 : b198 ≠ t207 := Nat.ne_of_lt (Nat.lt_of_lt_of_le A198.lt ts207)
      have big212 : Z.heap.size ≤ t207 := Nat.le_trans O0.1 ts207
      have sz213 : h0.size ≤ t207 := Nat.le_trans K0.1 ts207
      have sz214 : hs1.size ≤ t207 := Nat.le_trans K1.1 ts207
      have hAp_b198 := own_apart hZ hJ f205
      replace hJ := own_JkeepS hZ hJ Kc207 hAp_b198 A198 (ow3 hw)
      replace f160 := f160.keep Kc207 (ninS ne199 nin0)
      replace f169 := f169.keep Kc207 (ninS ne200 nin0)
      replace f182 := f182.keep Kc207 (ninS ne201 nin0)
      replace A198 := A198.keep Kc207
      clear f205
      clear f206
      replace O0 := own_oldKeep O0 Kc207 (allS big202 all0)
      replace K0 := K0.trans Kc207 (allS (Or.inr sz203) all0)
      replace K1 := K1.trans Kc207 (allS (Or.inr sz204) all0)
      clear Kc207
      show own_GoW p e below s _ _ _ _ (T207.setTop (mkF m 151 #[iv p1, iv p2, iv p3, .val (.long q4), .second, .val (.long q5), .second, .val (.long q6), .second, iv ua, iv ub, iv uc, iv ud, iv ue, iv ((((p1.toUInt32 >>> ((5 : Int32) &&& 31).toUInt32).toInt32) &&& (2147483647 : Int32)) % (3 : Int32)), rv b156, rv b161, rv b170, .unset, .unset, .unset, .unset, .unset, .unset, .unset, .unset, .unset, .unset, .unset] [(.ref b198)]))
      refine own_goW (fun _ k => XS.goto X207.here hx rfl (pc0 := 151) (pc' := 163) rfl (hb hby at_151) (by decide) (by decide) k) ?_
      show own_GoW p e below s _ _ _ _ (T207.setTop (mkF m 163 #[iv p1, iv p2, iv p3, .val (.long q4), .second, .val (.long q5), .second, .val (.long q6), .second, iv ua, iv ub, iv uc, iv ud, iv ue, iv ((((p1.toUInt32 >>> ((5 : Int32) &&& 31).toUInt32).toInt32) &&& (2147483647 : Int32)) % (3 : Int32)), rv b156, rv b161, rv b170, .unset, .unset, .unset, .unset, .unset, .unset, .unset, .unset, .unset, .unset, .unset] [(.ref b198)]))
      exact sg_s163 hw oCS oCz oCa oBx p1 p2 p3 q4 q5 q6 ua ub uc ud ue ((((p1.toUInt32 >>> ((5 : Int32) &&& 31).toUInt32).toInt32) &&& (2147483647 : Int32)) % (3 : Int32)) (rv b156 : Slot) (rv b161 : Slot) (rv b170 : Slot) b198 h0 T207.heap X207 hS hL hJ hx hby hml hret hlk hZ hown hnm (rfl : T207.heap = T207.heap) N0 O0 K0 f1207 (by omega) (by omega)
    · refine own_goW (fun _ k => XS.icmpYes X181.here hx rfl (pc0 := 139) (pc' := 154) rfl (hb hby at_139) rfl (feq hc197).2 (by decide) (by decide) k) ?_
      show own_GoW p e below s _ _ _ _ (T181.setTop (mkF m 154 #[iv p1, iv p2, iv p3, .val (.long q4), .second, .val (.long q5), .second, .val (.long q6), .second, iv ua, iv ub, iv uc, iv ud, iv ue, iv ((((p1.toUInt32 >>> ((5 : Int32) &&& 31).toUInt32).toInt32) &&& (2147483647 : Int32)) % (3 : Int32)), rv b156, rv b161, rv b170, .unset, .unset, .unset, .unset, .unset, .unset, .unset, .unset, .unset, .unset, .unset] []))
      obtain ⟨T215, h215, X215, e215, E215, A215, D215, -, st215⟩ := newO X181 hx hZ hown (ow2 hw) (ow3 hw) (ow4 hw) e181 (g := (mkF m 154 #[iv p1, iv p2, iv p3, .val (.long q4), .second, .val (.long q5), .second, .val (.long q6), .second, iv ua, iv ub, iv uc, iv ud, iv ue, iv ((((p1.toUInt32 >>> ((5 : Int32) &&& 31).toUInt32).toInt32) &&& (2147483647 : Int32)) % (3 : Int32)), rv b156, rv b161, rv b170, .unset, .unset, .unset, .unset, .unset, .unset, .unset, .unset, .unset, .unset, .unset] [])) rfl (hb hby at_154) (by show _ ≤ 48; omega) (by show _ ≤ 1216; omega)
      obtain ⟨b215, g215⟩ : ∃ z, z = h181.size := ⟨_, rfl⟩
      rw [← g215] at A215 D215 st215
      refine own_goW st215 ?_
      clear st215 X181 e181
      have ge215 := Nat.le_of_eq g215.symm
      have ne216 : b156 ≠ b215 := Nat.ne_of_lt (Nat.lt_of_lt_of_le f160.lt ge215)
      have ne217 : b161 ≠ b215 := Nat.ne_of_lt (Nat.lt_of_lt_of_le f169.lt ge215)
      have ne218 : b170 ≠ b215 := Nat.ne_of_lt (Nat.lt_of_lt_of_le f182.lt ge215)
      have big219 : Z.heap.size ≤ b215 := Nat.le_trans O0.1 ge215
      have sz220 : h0.size ≤ b215 := Nat.le_trans K0.1 ge215
      have sz221 : hs1.size ≤ b215 := Nat.le_trans K1.1 ge215
      replace f160 := f160.ext E215
      replace f169 := f169.ext E215
      replace f182 := f182.ext E215
      replace O0 := own_oldExt O0 E215
      replace K0 := K0.ext E215
      replace K1 := K1.ext E215
      replace hS := own_since hS E215.1
      replace hJ := own_Jext hJ E215
      clear E215
      have f222 : Fld Z h215 b215 "java/lang/String" "value" "[B" .null := D215 (Or.inr (ow17 hw)) (ty := (.array .byte)) own_fd0
      have f223 : Fld Z h215 b215 "java/lang/String" "coder" "B" (.int (0 : Int32)) := D215 (Or.inr (ow18 hw)) (ty := .byte) own_fd1
      show own_GoW p e below s _ _ _ _ (T215.setTop (mkF m 157 #[iv p1, iv p2, iv p3, .val (.long q4), .second, .val (.long q5), .second, .val (.long q6), .second, iv ua, iv ub, iv uc, iv ud, iv ue, iv ((((p1.toUInt32 >>> ((5 : Int32) &&& 31).toUInt32).toInt32) &&& (2147483647 : Int32)) % (3 : Int32)), rv b156, rv b161, rv b170, .unset, .unset, .unset, .unset, .unset, .unset, .unset, .unset, .unset, .unset, .unset] [(.ref b215)]))
      refine own_goW (fun _ k => XS.dup X215.here hx rfl (hb hby at_157) rfl rfl k) ?_
      show own_GoW p e below s _ _ _ _ (T215.setTop (mkF m 158 #[iv p1, iv p2, iv p3, .val (.long q4), .second, .val (.long q5), .second, .val (.long q6), .second, iv ua, iv ub, iv uc, iv ud, iv ue, iv ((((p1.toUInt32 >>> ((5 : Int32) &&& 31).toUInt32).toInt32) &&& (2147483647 : Int32)) % (3 : Int32)), rv b156, rv b161, rv b170, .unset, .unset, .unset, .unset, .unset, .unset, .unset, .unset, .unset, .unset, .unset] [(.ref b215), (.ref b215)]))
      refine own_goW (fun _ k => XS.aload X215.here hx rfl (hb hby at_158) rfl rfl k) ?_
      show own_GoW p e below s _ _ _ _ (T215.setTop (mkF m 160 #[iv p1, iv p2, iv p3, .val (.long q4), .second, .val (.long q5), .second, .val (.long q6), .second, iv ua, iv ub, iv uc, iv ud, iv ue, iv ((((p1.toUInt32 >>> ((5 : Int32) &&& 31).toUInt32).toInt32) &&& (2147483647 : Int32)) % (3 : Int32)), rv b156, rv b161, rv b170, .unset, .unset, .unset, .unset, .unset, .unset, .unset, .unset, .unset, .unset, .unset] [(.ref b170), (.ref b215), (.ref b215)]))
      obtain ⟨v224, T224, L224, X224, hQ224, st224⟩ := own_callIB (y := (⟨"java/lang/String", "<init>", "([C)V"⟩ : MethodName)) X215 hx hZ hown (ow5 hw) (ow6 hw) (ow4 hw) (ow7 hw) 1 1 2 (StrChars.Road.backV (W := 1) hZ (own_sw1 hw) (kI := 4) (ow3 hw) (cs := ([(p2 &&& (255 : Int32)), (p3 &&& (255 : Int32))] : List Int32)) (bs := ([(p2 &&& (255 : Int32)), (p3 &&& (255 : Int32))] : List Int32).map (fun c => c.toInt8.toInt32)) (n := 2) (n0 := Z.heap.size) big219 (Nat.le_trans O0.1 (Nat.le_refl _)) A215 f222 f223 f182 (oCS.ext O0) oCz rfl rfl (by decide) (by decide) (own_cC (own_c8m p2) (own_cC (own_c8m p3) own_cN)) rfl (by decide) (by decide)) rfl (by show _ ≤ 48; omega) (by show _ ≤ 1216; omega) e215 (g := (mkF m 160 #[iv p1, iv p2, iv p3, .val (.long q4), .second, .val (.long q5), .second, .val (.long q6), .second, iv ua, iv ub, iv uc, iv ud, iv ue, iv ((((p1.toUInt32 >>> ((5 : Int32) &&& 31).toUInt32).toInt32) &&& (2147483647 : Int32)) % (3 : Int32)), rv b156, rv b161, rv b170, .unset, .unset, .unset, .unset, .unset, .unset, .unset, .unset, .unset, .unset, .unset] [(.ref b170), (.ref b215), (.ref b215)])) rfl (by rw [hml]; rfl) b215 [(.ref b170)] [(.ref b215)] (lenOf own_pd_9 rfl) rfl rfl (hb hby at_160)
      obtain ⟨rfl, Nc224, Kc224, f1224, f2224, t224, kb224, tb224, ts224, tn224, f3224, f4224⟩ := hQ224
      refine own_goW st224 ?_
      clear st224 X215 e215
      replace N0 := Fr.app N0 Nc224
      clear Nc224
      replace hS := own_since hS Kc224.1
      have ne225 : b156 ≠ t224 := Nat.ne_of_lt (Nat.lt_of_lt_of_le f160.lt ts224)
      have ne226 : b161 ≠ t224 := Nat.ne_of_lt (Nat.lt_of_lt_of_le f169.lt ts224)
      have ne227 : b170 ≠ t224 := Nat.ne_of_lt (Nat.lt_of_lt_of_le f182.lt ts224)
      have ne228 : b215 ≠ t224 := Nat.ne_of_lt (Nat.lt_of_lt_of_le A215.lt ts224)
      have big229 : Z.heap.size ≤ t224 := Nat.le_trans O0.1 ts224
      have sz230 : h0.size ≤ t224 := Nat.le_trans K0.1 ts224
      have sz231 : hs1.size ≤ t224 := Nat.le_trans K1.1 ts224
      have hAp_b215 := own_apart hZ hJ f222
      replace hJ := own_JkeepS hZ hJ Kc224 hAp_b215 A215 (ow3 hw)
      replace f160 := f160.keep Kc224 (ninS ne216 nin0)
      replace f169 := f169.keep Kc224 (ninS ne217 nin0)
      replace f182 := f182.keep Kc224 (ninS ne218 nin0)
      replace A215 := A215.keep Kc224
      clear f222
      clear f223
      replace O0 := own_oldKeep O0 Kc224 (allS big219 all0)
      replace K0 := K0.trans Kc224 (allS (Or.inr sz220) all0)
      replace K1 := K1.trans Kc224 (allS (Or.inr sz221) all0)
      clear Kc224
      show own_GoW p e below s _ _ _ _ (T224.setTop (mkF m 163 #[iv p1, iv p2, iv p3, .val (.long q4), .second, .val (.long q5), .second, .val (.long q6), .second, iv ua, iv ub, iv uc, iv ud, iv ue, iv ((((p1.toUInt32 >>> ((5 : Int32) &&& 31).toUInt32).toInt32) &&& (2147483647 : Int32)) % (3 : Int32)), rv b156, rv b161, rv b170, .unset, .unset, .unset, .unset, .unset, .unset, .unset, .unset, .unset, .unset, .unset] [(.ref b215)]))
      exact sg_s163 hw oCS oCz oCa oBx p1 p2 p3 q4 q5 q6 ua ub uc ud ue ((((p1.toUInt32 >>> ((5 : Int32) &&& 31).toUInt32).toInt32) &&& (2147483647 : Int32)) % (3 : Int32)) (rv b156 : Slot) (rv b161 : Slot) (rv b170 : Slot) b215 h0 T224.heap X224 hS hL hJ hx hby hml hret hlk hZ hown hnm (rfl : T224.heap = T224.heap) N0 O0 K0 f1224 (by omega) (by omega)
set_option maxRecDepth 65536 in
set_option maxHeartbeats 40000000 in
theorem sg_s51 {l : Launch} {Z : State} {a0 : Array Value} (hw : ∀ d ∈ tables_1, d.before a0 Z = true) {zc : Int32} {wc : Addr} {clc : Cell} (oCS : Sta Z Z.heap "java/lang/String" "COMPACT_STRINGS" "Z" (.int zc)) (oCz : ¬ zc = (0 : Int32)) (oCa : Sta Z Z.heap "java/lang/Long$LongCache" "cache" "[Ljava/lang/Long;" (.ref wc)) (oBx : Bxs Z wc clc "java/lang/Long" "J" (256 : Int32) own_bxv) {p : Program} {e : Env} {s : State} {vm0 : Vm} {m : MethodId} {args : Array Value} {below : List Frame} {meth : Method} {c : Code} {T : State} {locs : List Loc} {cells slots : Nat} (p1 : Int32) (p2 : Int32) (p3 : Int32) (q4 : Int64) (q5 : Int64) (q6 : Int64) (ua : Int32) (ub : Int32) (uc : Int32) (ud : Int32) (h0 hs1 : Heap)
    (X0 : Stand p l e room_1 (s.setVm vm0) m args below meth c T locs cells slots) (hS : s.Since vm0 hs1.size) (hL : own_L Z a0) (hJ : own_J Z vm0 hs1) (hx : p.tables.exec = Jvm.exec) (hby : c.code = code) (hml : c.maxLocals = 29) (hret : meth.sig.returnType = some .boolean) (hlk : meth.locks = false) (hZ : Z.Warmed39 (s.setVm vm0).vm) (hown : (s.setVm vm0).vm.findClass "com/example/countersign/countersign/server/ExchangeSucceededPinLaw" = some m.cls) (hnm : meth.name = "law") (e0 : T.heap = hs1) (N0 : Fr Z.heap.size locs) (O0 : Ext Z.heap hs1) (K0 : Keep h0 hs1 []) (hcells : cells ≤ 0) (hslots : slots ≤ 0) :
    own_GoW p e below s Z (Q_law Z zc wc clc p1 p2 p3 q4 q5 q6 h0) room_1.cells room_1.slots (T.setTop (mkF m 51 #[iv p1, iv p2, iv p3, .val (.long q4), .second, .val (.long q5), .second, .val (.long q6), .second, iv ua, iv ub, iv uc, .unset, .unset, .unset, .unset, .unset, .unset, .unset, .unset, .unset, .unset, .unset, .unset, .unset, .unset, .unset, .unset, .unset] [(.int ud)])) := by
  have K1 := Keep.refl hs1 []
  show own_GoW p e below s _ _ _ _ (T.setTop (mkF m 51 #[iv p1, iv p2, iv p3, .val (.long q4), .second, .val (.long q5), .second, .val (.long q6), .second, iv ua, iv ub, iv uc, .unset, .unset, .unset, .unset, .unset, .unset, .unset, .unset, .unset, .unset, .unset, .unset, .unset, .unset, .unset, .unset, .unset] [(.int ud)]))
  refine own_goW (fun _ k => XS.istore X0.here hx rfl (hb hby at_51) rfl (l' := #[iv p1, iv p2, iv p3, .val (.long q4), .second, .val (.long q5), .second, .val (.long q6), .second, iv ua, iv ub, iv uc, iv ud, .unset, .unset, .unset, .unset, .unset, .unset, .unset, .unset, .unset, .unset, .unset, .unset, .unset, .unset, .unset, .unset]) rfl k) ?_
  show own_GoW p e below s _ _ _ _ (T.setTop (mkF m 53 #[iv p1, iv p2, iv p3, .val (.long q4), .second, .val (.long q5), .second, .val (.long q6), .second, iv ua, iv ub, iv uc, iv ud, .unset, .unset, .unset, .unset, .unset, .unset, .unset, .unset, .unset, .unset, .unset, .unset, .unset, .unset, .unset, .unset] []))
  refine own_goW (fun _ k => XS.iloadN X0.here hx rfl (hb hby at_53) rfl k) ?_
  show own_GoW p e below s _ _ _ _ (T.setTop (mkF m 54 #[iv p1, iv p2, iv p3, .val (.long q4), .second, .val (.long q5), .second, .val (.long q6), .second, iv ua, iv ub, iv uc, iv ud, .unset, .unset, .unset, .unset, .unset, .unset, .unset, .unset, .unset, .unset, .unset, .unset, .unset, .unset, .unset, .unset] [(.int p1)]))
  refine own_goW (fun _ k => XS.bipush X0.here hx rfl (hb hby at_54) k) ?_
  show own_GoW p e below s _ _ _ _ (T.setTop (mkF m 56 #[iv p1, iv p2, iv p3, .val (.long q4), .second, .val (.long q5), .second, .val (.long q6), .second, iv ua, iv ub, iv uc, iv ud, .unset, .unset, .unset, .unset, .unset, .unset, .unset, .unset, .unset, .unset, .unset, .unset, .unset, .unset, .unset, .unset] [(.int (16 : Int32)), (.int p1)]))
  refine own_goW (fun _ k => XS.iand X0.here hx rfl (hb hby at_56) rfl k) ?_
  show own_GoW p e below s _ _ _ _ (T.setTop (mkF m 57 #[iv p1, iv p2, iv p3, .val (.long q4), .second, .val (.long q5), .second, .val (.long q6), .second, iv ua, iv ub, iv uc, iv ud, .unset, .unset, .unset, .unset, .unset, .unset, .unset, .unset, .unset, .unset, .unset, .unset, .unset, .unset, .unset, .unset] [(.int (p1 &&& (16 : Int32)))]))
  by_cases hc232 : (p1 &&& (16 : Int32)) = (0 : Int32)
  · refine own_goW (fun _ k => XS.ifYes X0.here hx rfl (pc0 := 57) (pc' := 64) rfl (hb hby at_57) rfl ((if0 _ _).trans (teq hc232).1) (by decide) (by decide) k) ?_
    show own_GoW p e below s _ _ _ _ (T.setTop (mkF m 64 #[iv p1, iv p2, iv p3, .val (.long q4), .second, .val (.long q5), .second, .val (.long q6), .second, iv ua, iv ub, iv uc, iv ud, .unset, .unset, .unset, .unset, .unset, .unset, .unset, .unset, .unset, .unset, .unset, .unset, .unset, .unset, .unset, .unset] []))
    refine own_goW (fun _ k => XS.iconst X0.here hx rfl (hb hby at_64) k) ?_
    show own_GoW p e below s _ _ _ _ (T.setTop (mkF m 65 #[iv p1, iv p2, iv p3, .val (.long q4), .second, .val (.long q5), .second, .val (.long q6), .second, iv ua, iv ub, iv uc, iv ud, .unset, .unset, .unset, .unset, .unset, .unset, .unset, .unset, .unset, .unset, .unset, .unset, .unset, .unset, .unset, .unset] [(.int (0 : Int32))]))
    exact sg_s65 hw oCS oCz oCa oBx p1 p2 p3 q4 q5 q6 ua ub uc ud (0 : Int32) h0 hs1 X0 hS hL hJ hx hby hml hret hlk hZ hown hnm e0 N0 O0 K0 (by omega) (by omega)
  · refine own_goW (fun _ k => XS.ifNo X0.here hx rfl (hb hby at_57) rfl ((if0 _ _).trans (feq hc232).1) k) ?_
    show own_GoW p e below s _ _ _ _ (T.setTop (mkF m 60 #[iv p1, iv p2, iv p3, .val (.long q4), .second, .val (.long q5), .second, .val (.long q6), .second, iv ua, iv ub, iv uc, iv ud, .unset, .unset, .unset, .unset, .unset, .unset, .unset, .unset, .unset, .unset, .unset, .unset, .unset, .unset, .unset, .unset] []))
    refine own_goW (fun _ k => XS.iconst X0.here hx rfl (hb hby at_60) k) ?_
    show own_GoW p e below s _ _ _ _ (T.setTop (mkF m 61 #[iv p1, iv p2, iv p3, .val (.long q4), .second, .val (.long q5), .second, .val (.long q6), .second, iv ua, iv ub, iv uc, iv ud, .unset, .unset, .unset, .unset, .unset, .unset, .unset, .unset, .unset, .unset, .unset, .unset, .unset, .unset, .unset, .unset] [(.int (1 : Int32))]))
    refine own_goW (fun _ k => XS.goto X0.here hx rfl (pc0 := 61) (pc' := 65) rfl (hb hby at_61) (by decide) (by decide) k) ?_
    show own_GoW p e below s _ _ _ _ (T.setTop (mkF m 65 #[iv p1, iv p2, iv p3, .val (.long q4), .second, .val (.long q5), .second, .val (.long q6), .second, iv ua, iv ub, iv uc, iv ud, .unset, .unset, .unset, .unset, .unset, .unset, .unset, .unset, .unset, .unset, .unset, .unset, .unset, .unset, .unset, .unset] [(.int (1 : Int32))]))
    exact sg_s65 hw oCS oCz oCa oBx p1 p2 p3 q4 q5 q6 ua ub uc ud (1 : Int32) h0 hs1 X0 hS hL hJ hx hby hml hret hlk hZ hown hnm e0 N0 O0 K0 (by omega) (by omega)
set_option maxRecDepth 65536 in
set_option maxHeartbeats 40000000 in
theorem sg_s37 {l : Launch} {Z : State} {a0 : Array Value} (hw : ∀ d ∈ tables_1, d.before a0 Z = true) {zc : Int32} {wc : Addr} {clc : Cell} (oCS : Sta Z Z.heap "java/lang/String" "COMPACT_STRINGS" "Z" (.int zc)) (oCz : ¬ zc = (0 : Int32)) (oCa : Sta Z Z.heap "java/lang/Long$LongCache" "cache" "[Ljava/lang/Long;" (.ref wc)) (oBx : Bxs Z wc clc "java/lang/Long" "J" (256 : Int32) own_bxv) {p : Program} {e : Env} {s : State} {vm0 : Vm} {m : MethodId} {args : Array Value} {below : List Frame} {meth : Method} {c : Code} {T : State} {locs : List Loc} {cells slots : Nat} (p1 : Int32) (p2 : Int32) (p3 : Int32) (q4 : Int64) (q5 : Int64) (q6 : Int64) (ua : Int32) (ub : Int32) (uc : Int32) (h0 hs1 : Heap)
    (X0 : Stand p l e room_1 (s.setVm vm0) m args below meth c T locs cells slots) (hS : s.Since vm0 hs1.size) (hL : own_L Z a0) (hJ : own_J Z vm0 hs1) (hx : p.tables.exec = Jvm.exec) (hby : c.code = code) (hml : c.maxLocals = 29) (hret : meth.sig.returnType = some .boolean) (hlk : meth.locks = false) (hZ : Z.Warmed39 (s.setVm vm0).vm) (hown : (s.setVm vm0).vm.findClass "com/example/countersign/countersign/server/ExchangeSucceededPinLaw" = some m.cls) (hnm : meth.name = "law") (e0 : T.heap = hs1) (N0 : Fr Z.heap.size locs) (O0 : Ext Z.heap hs1) (K0 : Keep h0 hs1 []) (hcells : cells ≤ 0) (hslots : slots ≤ 0) :
    own_GoW p e below s Z (Q_law Z zc wc clc p1 p2 p3 q4 q5 q6 h0) room_1.cells room_1.slots (T.setTop (mkF m 37 #[iv p1, iv p2, iv p3, .val (.long q4), .second, .val (.long q5), .second, .val (.long q6), .second, iv ua, iv ub, .unset, .unset, .unset, .unset, .unset, .unset, .unset, .unset, .unset, .unset, .unset, .unset, .unset, .unset, .unset, .unset, .unset, .unset] [(.int uc)])) := by
  have K1 := Keep.refl hs1 []
  show own_GoW p e below s _ _ _ _ (T.setTop (mkF m 37 #[iv p1, iv p2, iv p3, .val (.long q4), .second, .val (.long q5), .second, .val (.long q6), .second, iv ua, iv ub, .unset, .unset, .unset, .unset, .unset, .unset, .unset, .unset, .unset, .unset, .unset, .unset, .unset, .unset, .unset, .unset, .unset, .unset] [(.int uc)]))
  refine own_goW (fun _ k => XS.istore X0.here hx rfl (hb hby at_37) rfl (l' := #[iv p1, iv p2, iv p3, .val (.long q4), .second, .val (.long q5), .second, .val (.long q6), .second, iv ua, iv ub, iv uc, .unset, .unset, .unset, .unset, .unset, .unset, .unset, .unset, .unset, .unset, .unset, .unset, .unset, .unset, .unset, .unset, .unset]) rfl k) ?_
  show own_GoW p e below s _ _ _ _ (T.setTop (mkF m 39 #[iv p1, iv p2, iv p3, .val (.long q4), .second, .val (.long q5), .second, .val (.long q6), .second, iv ua, iv ub, iv uc, .unset, .unset, .unset, .unset, .unset, .unset, .unset, .unset, .unset, .unset, .unset, .unset, .unset, .unset, .unset, .unset, .unset] []))
  refine own_goW (fun _ k => XS.iloadN X0.here hx rfl (hb hby at_39) rfl k) ?_
  show own_GoW p e below s _ _ _ _ (T.setTop (mkF m 40 #[iv p1, iv p2, iv p3, .val (.long q4), .second, .val (.long q5), .second, .val (.long q6), .second, iv ua, iv ub, iv uc, .unset, .unset, .unset, .unset, .unset, .unset, .unset, .unset, .unset, .unset, .unset, .unset, .unset, .unset, .unset, .unset, .unset] [(.int p1)]))
  refine own_goW (fun _ k => XS.bipush X0.here hx rfl (hb hby at_40) k) ?_
  show own_GoW p e below s _ _ _ _ (T.setTop (mkF m 42 #[iv p1, iv p2, iv p3, .val (.long q4), .second, .val (.long q5), .second, .val (.long q6), .second, iv ua, iv ub, iv uc, .unset, .unset, .unset, .unset, .unset, .unset, .unset, .unset, .unset, .unset, .unset, .unset, .unset, .unset, .unset, .unset, .unset] [(.int (8 : Int32)), (.int p1)]))
  refine own_goW (fun _ k => XS.iand X0.here hx rfl (hb hby at_42) rfl k) ?_
  show own_GoW p e below s _ _ _ _ (T.setTop (mkF m 43 #[iv p1, iv p2, iv p3, .val (.long q4), .second, .val (.long q5), .second, .val (.long q6), .second, iv ua, iv ub, iv uc, .unset, .unset, .unset, .unset, .unset, .unset, .unset, .unset, .unset, .unset, .unset, .unset, .unset, .unset, .unset, .unset, .unset] [(.int (p1 &&& (8 : Int32)))]))
  by_cases hc233 : (p1 &&& (8 : Int32)) = (0 : Int32)
  · refine own_goW (fun _ k => XS.ifYes X0.here hx rfl (pc0 := 43) (pc' := 50) rfl (hb hby at_43) rfl ((if0 _ _).trans (teq hc233).1) (by decide) (by decide) k) ?_
    show own_GoW p e below s _ _ _ _ (T.setTop (mkF m 50 #[iv p1, iv p2, iv p3, .val (.long q4), .second, .val (.long q5), .second, .val (.long q6), .second, iv ua, iv ub, iv uc, .unset, .unset, .unset, .unset, .unset, .unset, .unset, .unset, .unset, .unset, .unset, .unset, .unset, .unset, .unset, .unset, .unset] []))
    refine own_goW (fun _ k => XS.iconst X0.here hx rfl (hb hby at_50) k) ?_
    show own_GoW p e below s _ _ _ _ (T.setTop (mkF m 51 #[iv p1, iv p2, iv p3, .val (.long q4), .second, .val (.long q5), .second, .val (.long q6), .second, iv ua, iv ub, iv uc, .unset, .unset, .unset, .unset, .unset, .unset, .unset, .unset, .unset, .unset, .unset, .unset, .unset, .unset, .unset, .unset, .unset] [(.int (0 : Int32))]))
    exact sg_s51 hw oCS oCz oCa oBx p1 p2 p3 q4 q5 q6 ua ub uc (0 : Int32) h0 hs1 X0 hS hL hJ hx hby hml hret hlk hZ hown hnm e0 N0 O0 K0 (by omega) (by omega)
  · refine own_goW (fun _ k => XS.ifNo X0.here hx rfl (hb hby at_43) rfl ((if0 _ _).trans (feq hc233).1) k) ?_
    show own_GoW p e below s _ _ _ _ (T.setTop (mkF m 46 #[iv p1, iv p2, iv p3, .val (.long q4), .second, .val (.long q5), .second, .val (.long q6), .second, iv ua, iv ub, iv uc, .unset, .unset, .unset, .unset, .unset, .unset, .unset, .unset, .unset, .unset, .unset, .unset, .unset, .unset, .unset, .unset, .unset] []))
    refine own_goW (fun _ k => XS.iconst X0.here hx rfl (hb hby at_46) k) ?_
    show own_GoW p e below s _ _ _ _ (T.setTop (mkF m 47 #[iv p1, iv p2, iv p3, .val (.long q4), .second, .val (.long q5), .second, .val (.long q6), .second, iv ua, iv ub, iv uc, .unset, .unset, .unset, .unset, .unset, .unset, .unset, .unset, .unset, .unset, .unset, .unset, .unset, .unset, .unset, .unset, .unset] [(.int (1 : Int32))]))
    refine own_goW (fun _ k => XS.goto X0.here hx rfl (pc0 := 47) (pc' := 51) rfl (hb hby at_47) (by decide) (by decide) k) ?_
    show own_GoW p e below s _ _ _ _ (T.setTop (mkF m 51 #[iv p1, iv p2, iv p3, .val (.long q4), .second, .val (.long q5), .second, .val (.long q6), .second, iv ua, iv ub, iv uc, .unset, .unset, .unset, .unset, .unset, .unset, .unset, .unset, .unset, .unset, .unset, .unset, .unset, .unset, .unset, .unset, .unset] [(.int (1 : Int32))]))
    exact sg_s51 hw oCS oCz oCa oBx p1 p2 p3 q4 q5 q6 ua ub uc (1 : Int32) h0 hs1 X0 hS hL hJ hx hby hml hret hlk hZ hown hnm e0 N0 O0 K0 (by omega) (by omega)
set_option maxRecDepth 65536 in
set_option maxHeartbeats 40000000 in
theorem sg_s24 {l : Launch} {Z : State} {a0 : Array Value} (hw : ∀ d ∈ tables_1, d.before a0 Z = true) {zc : Int32} {wc : Addr} {clc : Cell} (oCS : Sta Z Z.heap "java/lang/String" "COMPACT_STRINGS" "Z" (.int zc)) (oCz : ¬ zc = (0 : Int32)) (oCa : Sta Z Z.heap "java/lang/Long$LongCache" "cache" "[Ljava/lang/Long;" (.ref wc)) (oBx : Bxs Z wc clc "java/lang/Long" "J" (256 : Int32) own_bxv) {p : Program} {e : Env} {s : State} {vm0 : Vm} {m : MethodId} {args : Array Value} {below : List Frame} {meth : Method} {c : Code} {T : State} {locs : List Loc} {cells slots : Nat} (p1 : Int32) (p2 : Int32) (p3 : Int32) (q4 : Int64) (q5 : Int64) (q6 : Int64) (ua : Int32) (ub : Int32) (h0 hs1 : Heap)
    (X0 : Stand p l e room_1 (s.setVm vm0) m args below meth c T locs cells slots) (hS : s.Since vm0 hs1.size) (hL : own_L Z a0) (hJ : own_J Z vm0 hs1) (hx : p.tables.exec = Jvm.exec) (hby : c.code = code) (hml : c.maxLocals = 29) (hret : meth.sig.returnType = some .boolean) (hlk : meth.locks = false) (hZ : Z.Warmed39 (s.setVm vm0).vm) (hown : (s.setVm vm0).vm.findClass "com/example/countersign/countersign/server/ExchangeSucceededPinLaw" = some m.cls) (hnm : meth.name = "law") (e0 : T.heap = hs1) (N0 : Fr Z.heap.size locs) (O0 : Ext Z.heap hs1) (K0 : Keep h0 hs1 []) (hcells : cells ≤ 0) (hslots : slots ≤ 0) :
    own_GoW p e below s Z (Q_law Z zc wc clc p1 p2 p3 q4 q5 q6 h0) room_1.cells room_1.slots (T.setTop (mkF m 24 #[iv p1, iv p2, iv p3, .val (.long q4), .second, .val (.long q5), .second, .val (.long q6), .second, iv ua, .unset, .unset, .unset, .unset, .unset, .unset, .unset, .unset, .unset, .unset, .unset, .unset, .unset, .unset, .unset, .unset, .unset, .unset, .unset] [(.int ub)])) := by
  have K1 := Keep.refl hs1 []
  show own_GoW p e below s _ _ _ _ (T.setTop (mkF m 24 #[iv p1, iv p2, iv p3, .val (.long q4), .second, .val (.long q5), .second, .val (.long q6), .second, iv ua, .unset, .unset, .unset, .unset, .unset, .unset, .unset, .unset, .unset, .unset, .unset, .unset, .unset, .unset, .unset, .unset, .unset, .unset, .unset] [(.int ub)]))
  refine own_goW (fun _ k => XS.istore X0.here hx rfl (hb hby at_24) rfl (l' := #[iv p1, iv p2, iv p3, .val (.long q4), .second, .val (.long q5), .second, .val (.long q6), .second, iv ua, iv ub, .unset, .unset, .unset, .unset, .unset, .unset, .unset, .unset, .unset, .unset, .unset, .unset, .unset, .unset, .unset, .unset, .unset, .unset]) rfl k) ?_
  show own_GoW p e below s _ _ _ _ (T.setTop (mkF m 26 #[iv p1, iv p2, iv p3, .val (.long q4), .second, .val (.long q5), .second, .val (.long q6), .second, iv ua, iv ub, .unset, .unset, .unset, .unset, .unset, .unset, .unset, .unset, .unset, .unset, .unset, .unset, .unset, .unset, .unset, .unset, .unset, .unset] []))
  refine own_goW (fun _ k => XS.iloadN X0.here hx rfl (hb hby at_26) rfl k) ?_
  show own_GoW p e below s _ _ _ _ (T.setTop (mkF m 27 #[iv p1, iv p2, iv p3, .val (.long q4), .second, .val (.long q5), .second, .val (.long q6), .second, iv ua, iv ub, .unset, .unset, .unset, .unset, .unset, .unset, .unset, .unset, .unset, .unset, .unset, .unset, .unset, .unset, .unset, .unset, .unset, .unset] [(.int p1)]))
  refine own_goW (fun _ k => XS.iconst X0.here hx rfl (hb hby at_27) k) ?_
  show own_GoW p e below s _ _ _ _ (T.setTop (mkF m 28 #[iv p1, iv p2, iv p3, .val (.long q4), .second, .val (.long q5), .second, .val (.long q6), .second, iv ua, iv ub, .unset, .unset, .unset, .unset, .unset, .unset, .unset, .unset, .unset, .unset, .unset, .unset, .unset, .unset, .unset, .unset, .unset, .unset] [(.int (4 : Int32)), (.int p1)]))
  refine own_goW (fun _ k => XS.iand X0.here hx rfl (hb hby at_28) rfl k) ?_
  show own_GoW p e below s _ _ _ _ (T.setTop (mkF m 29 #[iv p1, iv p2, iv p3, .val (.long q4), .second, .val (.long q5), .second, .val (.long q6), .second, iv ua, iv ub, .unset, .unset, .unset, .unset, .unset, .unset, .unset, .unset, .unset, .unset, .unset, .unset, .unset, .unset, .unset, .unset, .unset, .unset] [(.int (p1 &&& (4 : Int32)))]))
  by_cases hc234 : (p1 &&& (4 : Int32)) = (0 : Int32)
  · refine own_goW (fun _ k => XS.ifYes X0.here hx rfl (pc0 := 29) (pc' := 36) rfl (hb hby at_29) rfl ((if0 _ _).trans (teq hc234).1) (by decide) (by decide) k) ?_
    show own_GoW p e below s _ _ _ _ (T.setTop (mkF m 36 #[iv p1, iv p2, iv p3, .val (.long q4), .second, .val (.long q5), .second, .val (.long q6), .second, iv ua, iv ub, .unset, .unset, .unset, .unset, .unset, .unset, .unset, .unset, .unset, .unset, .unset, .unset, .unset, .unset, .unset, .unset, .unset, .unset] []))
    refine own_goW (fun _ k => XS.iconst X0.here hx rfl (hb hby at_36) k) ?_
    show own_GoW p e below s _ _ _ _ (T.setTop (mkF m 37 #[iv p1, iv p2, iv p3, .val (.long q4), .second, .val (.long q5), .second, .val (.long q6), .second, iv ua, iv ub, .unset, .unset, .unset, .unset, .unset, .unset, .unset, .unset, .unset, .unset, .unset, .unset, .unset, .unset, .unset, .unset, .unset, .unset] [(.int (0 : Int32))]))
    exact sg_s37 hw oCS oCz oCa oBx p1 p2 p3 q4 q5 q6 ua ub (0 : Int32) h0 hs1 X0 hS hL hJ hx hby hml hret hlk hZ hown hnm e0 N0 O0 K0 (by omega) (by omega)
  · refine own_goW (fun _ k => XS.ifNo X0.here hx rfl (hb hby at_29) rfl ((if0 _ _).trans (feq hc234).1) k) ?_
    show own_GoW p e below s _ _ _ _ (T.setTop (mkF m 32 #[iv p1, iv p2, iv p3, .val (.long q4), .second, .val (.long q5), .second, .val (.long q6), .second, iv ua, iv ub, .unset, .unset, .unset, .unset, .unset, .unset, .unset, .unset, .unset, .unset, .unset, .unset, .unset, .unset, .unset, .unset, .unset, .unset] []))
    refine own_goW (fun _ k => XS.iconst X0.here hx rfl (hb hby at_32) k) ?_
    show own_GoW p e below s _ _ _ _ (T.setTop (mkF m 33 #[iv p1, iv p2, iv p3, .val (.long q4), .second, .val (.long q5), .second, .val (.long q6), .second, iv ua, iv ub, .unset, .unset, .unset, .unset, .unset, .unset, .unset, .unset, .unset, .unset, .unset, .unset, .unset, .unset, .unset, .unset, .unset, .unset] [(.int (1 : Int32))]))
    refine own_goW (fun _ k => XS.goto X0.here hx rfl (pc0 := 33) (pc' := 37) rfl (hb hby at_33) (by decide) (by decide) k) ?_
    show own_GoW p e below s _ _ _ _ (T.setTop (mkF m 37 #[iv p1, iv p2, iv p3, .val (.long q4), .second, .val (.long q5), .second, .val (.long q6), .second, iv ua, iv ub, .unset, .unset, .unset, .unset, .unset, .unset, .unset, .unset, .unset, .unset, .unset, .unset, .unset, .unset, .unset, .unset, .unset, .unset] [(.int (1 : Int32))]))
    exact sg_s37 hw oCS oCz oCa oBx p1 p2 p3 q4 q5 q6 ua ub (1 : Int32) h0 hs1 X0 hS hL hJ hx hby hml hret hlk hZ hown hnm e0 N0 O0 K0 (by omega) (by omega)
set_option maxRecDepth 65536 in
set_option maxHeartbeats 40000000 in
theorem sg_s11 {l : Launch} {Z : State} {a0 : Array Value} (hw : ∀ d ∈ tables_1, d.before a0 Z = true) {zc : Int32} {wc : Addr} {clc : Cell} (oCS : Sta Z Z.heap "java/lang/String" "COMPACT_STRINGS" "Z" (.int zc)) (oCz : ¬ zc = (0 : Int32)) (oCa : Sta Z Z.heap "java/lang/Long$LongCache" "cache" "[Ljava/lang/Long;" (.ref wc)) (oBx : Bxs Z wc clc "java/lang/Long" "J" (256 : Int32) own_bxv) {p : Program} {e : Env} {s : State} {vm0 : Vm} {m : MethodId} {args : Array Value} {below : List Frame} {meth : Method} {c : Code} {T : State} {locs : List Loc} {cells slots : Nat} (p1 : Int32) (p2 : Int32) (p3 : Int32) (q4 : Int64) (q5 : Int64) (q6 : Int64) (ua : Int32) (h0 hs1 : Heap)
    (X0 : Stand p l e room_1 (s.setVm vm0) m args below meth c T locs cells slots) (hS : s.Since vm0 hs1.size) (hL : own_L Z a0) (hJ : own_J Z vm0 hs1) (hx : p.tables.exec = Jvm.exec) (hby : c.code = code) (hml : c.maxLocals = 29) (hret : meth.sig.returnType = some .boolean) (hlk : meth.locks = false) (hZ : Z.Warmed39 (s.setVm vm0).vm) (hown : (s.setVm vm0).vm.findClass "com/example/countersign/countersign/server/ExchangeSucceededPinLaw" = some m.cls) (hnm : meth.name = "law") (e0 : T.heap = hs1) (N0 : Fr Z.heap.size locs) (O0 : Ext Z.heap hs1) (K0 : Keep h0 hs1 []) (hcells : cells ≤ 0) (hslots : slots ≤ 0) :
    own_GoW p e below s Z (Q_law Z zc wc clc p1 p2 p3 q4 q5 q6 h0) room_1.cells room_1.slots (T.setTop (mkF m 11 #[iv p1, iv p2, iv p3, .val (.long q4), .second, .val (.long q5), .second, .val (.long q6), .second, .unset, .unset, .unset, .unset, .unset, .unset, .unset, .unset, .unset, .unset, .unset, .unset, .unset, .unset, .unset, .unset, .unset, .unset, .unset, .unset] [(.int ua)])) := by
  have K1 := Keep.refl hs1 []
  show own_GoW p e below s _ _ _ _ (T.setTop (mkF m 11 #[iv p1, iv p2, iv p3, .val (.long q4), .second, .val (.long q5), .second, .val (.long q6), .second, .unset, .unset, .unset, .unset, .unset, .unset, .unset, .unset, .unset, .unset, .unset, .unset, .unset, .unset, .unset, .unset, .unset, .unset, .unset, .unset] [(.int ua)]))
  refine own_goW (fun _ k => XS.istore X0.here hx rfl (hb hby at_11) rfl (l' := #[iv p1, iv p2, iv p3, .val (.long q4), .second, .val (.long q5), .second, .val (.long q6), .second, iv ua, .unset, .unset, .unset, .unset, .unset, .unset, .unset, .unset, .unset, .unset, .unset, .unset, .unset, .unset, .unset, .unset, .unset, .unset, .unset]) rfl k) ?_
  show own_GoW p e below s _ _ _ _ (T.setTop (mkF m 13 #[iv p1, iv p2, iv p3, .val (.long q4), .second, .val (.long q5), .second, .val (.long q6), .second, iv ua, .unset, .unset, .unset, .unset, .unset, .unset, .unset, .unset, .unset, .unset, .unset, .unset, .unset, .unset, .unset, .unset, .unset, .unset, .unset] []))
  refine own_goW (fun _ k => XS.iloadN X0.here hx rfl (hb hby at_13) rfl k) ?_
  show own_GoW p e below s _ _ _ _ (T.setTop (mkF m 14 #[iv p1, iv p2, iv p3, .val (.long q4), .second, .val (.long q5), .second, .val (.long q6), .second, iv ua, .unset, .unset, .unset, .unset, .unset, .unset, .unset, .unset, .unset, .unset, .unset, .unset, .unset, .unset, .unset, .unset, .unset, .unset, .unset] [(.int p1)]))
  refine own_goW (fun _ k => XS.iconst X0.here hx rfl (hb hby at_14) k) ?_
  show own_GoW p e below s _ _ _ _ (T.setTop (mkF m 15 #[iv p1, iv p2, iv p3, .val (.long q4), .second, .val (.long q5), .second, .val (.long q6), .second, iv ua, .unset, .unset, .unset, .unset, .unset, .unset, .unset, .unset, .unset, .unset, .unset, .unset, .unset, .unset, .unset, .unset, .unset, .unset, .unset] [(.int (2 : Int32)), (.int p1)]))
  refine own_goW (fun _ k => XS.iand X0.here hx rfl (hb hby at_15) rfl k) ?_
  show own_GoW p e below s _ _ _ _ (T.setTop (mkF m 16 #[iv p1, iv p2, iv p3, .val (.long q4), .second, .val (.long q5), .second, .val (.long q6), .second, iv ua, .unset, .unset, .unset, .unset, .unset, .unset, .unset, .unset, .unset, .unset, .unset, .unset, .unset, .unset, .unset, .unset, .unset, .unset, .unset] [(.int (p1 &&& (2 : Int32)))]))
  by_cases hc235 : (p1 &&& (2 : Int32)) = (0 : Int32)
  · refine own_goW (fun _ k => XS.ifYes X0.here hx rfl (pc0 := 16) (pc' := 23) rfl (hb hby at_16) rfl ((if0 _ _).trans (teq hc235).1) (by decide) (by decide) k) ?_
    show own_GoW p e below s _ _ _ _ (T.setTop (mkF m 23 #[iv p1, iv p2, iv p3, .val (.long q4), .second, .val (.long q5), .second, .val (.long q6), .second, iv ua, .unset, .unset, .unset, .unset, .unset, .unset, .unset, .unset, .unset, .unset, .unset, .unset, .unset, .unset, .unset, .unset, .unset, .unset, .unset] []))
    refine own_goW (fun _ k => XS.iconst X0.here hx rfl (hb hby at_23) k) ?_
    show own_GoW p e below s _ _ _ _ (T.setTop (mkF m 24 #[iv p1, iv p2, iv p3, .val (.long q4), .second, .val (.long q5), .second, .val (.long q6), .second, iv ua, .unset, .unset, .unset, .unset, .unset, .unset, .unset, .unset, .unset, .unset, .unset, .unset, .unset, .unset, .unset, .unset, .unset, .unset, .unset] [(.int (0 : Int32))]))
    exact sg_s24 hw oCS oCz oCa oBx p1 p2 p3 q4 q5 q6 ua (0 : Int32) h0 hs1 X0 hS hL hJ hx hby hml hret hlk hZ hown hnm e0 N0 O0 K0 (by omega) (by omega)
  · refine own_goW (fun _ k => XS.ifNo X0.here hx rfl (hb hby at_16) rfl ((if0 _ _).trans (feq hc235).1) k) ?_
    show own_GoW p e below s _ _ _ _ (T.setTop (mkF m 19 #[iv p1, iv p2, iv p3, .val (.long q4), .second, .val (.long q5), .second, .val (.long q6), .second, iv ua, .unset, .unset, .unset, .unset, .unset, .unset, .unset, .unset, .unset, .unset, .unset, .unset, .unset, .unset, .unset, .unset, .unset, .unset, .unset] []))
    refine own_goW (fun _ k => XS.iconst X0.here hx rfl (hb hby at_19) k) ?_
    show own_GoW p e below s _ _ _ _ (T.setTop (mkF m 20 #[iv p1, iv p2, iv p3, .val (.long q4), .second, .val (.long q5), .second, .val (.long q6), .second, iv ua, .unset, .unset, .unset, .unset, .unset, .unset, .unset, .unset, .unset, .unset, .unset, .unset, .unset, .unset, .unset, .unset, .unset, .unset, .unset] [(.int (1 : Int32))]))
    refine own_goW (fun _ k => XS.goto X0.here hx rfl (pc0 := 20) (pc' := 24) rfl (hb hby at_20) (by decide) (by decide) k) ?_
    show own_GoW p e below s _ _ _ _ (T.setTop (mkF m 24 #[iv p1, iv p2, iv p3, .val (.long q4), .second, .val (.long q5), .second, .val (.long q6), .second, iv ua, .unset, .unset, .unset, .unset, .unset, .unset, .unset, .unset, .unset, .unset, .unset, .unset, .unset, .unset, .unset, .unset, .unset, .unset, .unset] [(.int (1 : Int32))]))
    exact sg_s24 hw oCS oCz oCa oBx p1 p2 p3 q4 q5 q6 ua (1 : Int32) h0 hs1 X0 hS hL hJ hx hby hml hret hlk hZ hown hnm e0 N0 O0 K0 (by omega) (by omega)
theorem ef_law (m : MethodId) (x0 : Int32) (x1 : Int32) (x2 : Int32) (x3 : Int64) (x4 : Int64) (x5 : Int64) : entryFrame m #[(.int x0), (.int x1), (.int x2), (.long x3), (.long x4), (.long x5)] maxLocals = mkF m 0 #[iv x0, iv x1, iv x2, .val (.long x3), .second, .val (.long x4), .second, .val (.long x5), .second, .unset, .unset, .unset, .unset, .unset, .unset, .unset, .unset, .unset, .unset, .unset, .unset, .unset, .unset, .unset, .unset, .unset, .unset, .unset, .unset] [] := by first | (simp [entryFrame, mkF, argsToLocals, Value.category, maxLocals]; done) | rfl
set_option maxRecDepth 65536 in
set_option maxHeartbeats 40000000 in
theorem rm_law (l : Launch) (Z : State) (a0 : Array Value) (hw : ∀ d ∈ tables_1, d.before a0 Z = true) {zc : Int32} {wc : Addr} {clc : Cell} (oCS : Sta Z Z.heap "java/lang/String" "COMPACT_STRINGS" "Z" (.int zc)) (oCz : ¬ zc = (0 : Int32)) (oCa : Sta Z Z.heap "java/lang/Long$LongCache" "cache" "[Ljava/lang/Long;" (.ref wc)) (oBx : Bxs Z wc clc "java/lang/Long" "J" (256 : Int32) own_bxv) (ws : List Jvm.Cond) (p1 : Int32) (p2 : Int32) (p3 : Int32) (q4 : Int64) (q5 : Int64) (q6 : Int64) (h0 : Heap) (O0 : Ext Z.heap h0) :
    MetFree l x (head1 (Jvm.Cond.code x code maxLocals ret :: ws) room_1) (fun a U => a = #[(.int p1), (.int p2), (.int p3), (.long q4), (.long q5), (.long q6)] ∧ Z.Warmed39 U.vm ∧ U.heap = h0 ∧ own_J Z U.vm U.heap) (fun _ _ _ _ _ => True) (fun _ U o U' => ∃ v L, o = .returned v ∧ ((Q_law Z zc wc clc p1 p2 p3 q4 q5 q6 h0) v U'.heap L ∧ own_J Z U'.vm U'.heap) ∧ ReturnedEndW U o U' L room_1.cells room_1.slots) := by
  refine own_metW (Q := (Q_law Z zc wc clc p1 p2 p3 q4 q5 q6 h0)) _ _ (plainFor_of_name own_pn_5) ?_
  intro p e s vm0 m below meth c T X0 hS hJ hJ0 hZ0 hI hs0 hx hby hml hret hlk hZ hown hnm e0
  replace hown : (s.setVm vm0).vm.findClass "com/example/countersign/countersign/server/ExchangeSucceededPinLaw" = some m.cls := hown
  replace hnm : meth.name = "law" := hnm
  have hml : c.maxLocals = 29 := hml
  have N0 := Fr.nil Z.heap.size
  have hL := own_Lhw hw
  have K0 := Keep.refl h0 []
  refine own_goW (fun _ k => castTop (ef_law m p1 p2 p3 q4 q5 q6) k) ?_
  show own_GoW p e below s _ _ _ _ (T.setTop (mkF m 0 #[iv p1, iv p2, iv p3, .val (.long q4), .second, .val (.long q5), .second, .val (.long q6), .second, .unset, .unset, .unset, .unset, .unset, .unset, .unset, .unset, .unset, .unset, .unset, .unset, .unset, .unset, .unset, .unset, .unset, .unset, .unset, .unset] []))
  refine own_goW (fun _ k => XS.iloadN X0.here hx rfl (hb hby at_0) rfl k) ?_
  show own_GoW p e below s _ _ _ _ (T.setTop (mkF m 1 #[iv p1, iv p2, iv p3, .val (.long q4), .second, .val (.long q5), .second, .val (.long q6), .second, .unset, .unset, .unset, .unset, .unset, .unset, .unset, .unset, .unset, .unset, .unset, .unset, .unset, .unset, .unset, .unset, .unset, .unset, .unset, .unset] [(.int p1)]))
  refine own_goW (fun _ k => XS.iconst X0.here hx rfl (hb hby at_1) k) ?_
  show own_GoW p e below s _ _ _ _ (T.setTop (mkF m 2 #[iv p1, iv p2, iv p3, .val (.long q4), .second, .val (.long q5), .second, .val (.long q6), .second, .unset, .unset, .unset, .unset, .unset, .unset, .unset, .unset, .unset, .unset, .unset, .unset, .unset, .unset, .unset, .unset, .unset, .unset, .unset, .unset] [(.int (1 : Int32)), (.int p1)]))
  refine own_goW (fun _ k => XS.iand X0.here hx rfl (hb hby at_2) rfl k) ?_
  show own_GoW p e below s _ _ _ _ (T.setTop (mkF m 3 #[iv p1, iv p2, iv p3, .val (.long q4), .second, .val (.long q5), .second, .val (.long q6), .second, .unset, .unset, .unset, .unset, .unset, .unset, .unset, .unset, .unset, .unset, .unset, .unset, .unset, .unset, .unset, .unset, .unset, .unset, .unset, .unset] [(.int (p1 &&& (1 : Int32)))]))
  by_cases hc236 : (p1 &&& (1 : Int32)) = (0 : Int32)
  · refine own_goW (fun _ k => XS.ifYes X0.here hx rfl (pc0 := 3) (pc' := 10) rfl (hb hby at_3) rfl ((if0 _ _).trans (teq hc236).1) (by decide) (by decide) k) ?_
    show own_GoW p e below s _ _ _ _ (T.setTop (mkF m 10 #[iv p1, iv p2, iv p3, .val (.long q4), .second, .val (.long q5), .second, .val (.long q6), .second, .unset, .unset, .unset, .unset, .unset, .unset, .unset, .unset, .unset, .unset, .unset, .unset, .unset, .unset, .unset, .unset, .unset, .unset, .unset, .unset] []))
    refine own_goW (fun _ k => XS.iconst X0.here hx rfl (hb hby at_10) k) ?_
    show own_GoW p e below s _ _ _ _ (T.setTop (mkF m 11 #[iv p1, iv p2, iv p3, .val (.long q4), .second, .val (.long q5), .second, .val (.long q6), .second, .unset, .unset, .unset, .unset, .unset, .unset, .unset, .unset, .unset, .unset, .unset, .unset, .unset, .unset, .unset, .unset, .unset, .unset, .unset, .unset] [(.int (0 : Int32))]))
    exact sg_s11 hw oCS oCz oCa oBx p1 p2 p3 q4 q5 q6 (0 : Int32) h0 h0 X0 hS hL hJ hx hby hml hret hlk hZ hown hnm e0 N0 O0 K0 (by omega) (by omega)
  · refine own_goW (fun _ k => XS.ifNo X0.here hx rfl (hb hby at_3) rfl ((if0 _ _).trans (feq hc236).1) k) ?_
    show own_GoW p e below s _ _ _ _ (T.setTop (mkF m 6 #[iv p1, iv p2, iv p3, .val (.long q4), .second, .val (.long q5), .second, .val (.long q6), .second, .unset, .unset, .unset, .unset, .unset, .unset, .unset, .unset, .unset, .unset, .unset, .unset, .unset, .unset, .unset, .unset, .unset, .unset, .unset, .unset] []))
    refine own_goW (fun _ k => XS.iconst X0.here hx rfl (hb hby at_6) k) ?_
    show own_GoW p e below s _ _ _ _ (T.setTop (mkF m 7 #[iv p1, iv p2, iv p3, .val (.long q4), .second, .val (.long q5), .second, .val (.long q6), .second, .unset, .unset, .unset, .unset, .unset, .unset, .unset, .unset, .unset, .unset, .unset, .unset, .unset, .unset, .unset, .unset, .unset, .unset, .unset, .unset] [(.int (1 : Int32))]))
    refine own_goW (fun _ k => XS.goto X0.here hx rfl (pc0 := 7) (pc' := 11) rfl (hb hby at_7) (by decide) (by decide) k) ?_
    show own_GoW p e below s _ _ _ _ (T.setTop (mkF m 11 #[iv p1, iv p2, iv p3, .val (.long q4), .second, .val (.long q5), .second, .val (.long q6), .second, .unset, .unset, .unset, .unset, .unset, .unset, .unset, .unset, .unset, .unset, .unset, .unset, .unset, .unset, .unset, .unset, .unset, .unset, .unset, .unset] [(.int (1 : Int32))]))
    exact sg_s11 hw oCS oCz oCa oBx p1 p2 p3 q4 q5 q6 (1 : Int32) h0 h0 X0 hS hL hJ hx hby hml hret hlk hZ hown hnm e0 N0 O0 K0 (by omega) (by omega)
set_option maxRecDepth 65536 in
set_option maxHeartbeats 40000000 in
theorem comes_1 {Post : Tables → Env → Array Value → State → Outcome → State → Prop} (hpost : ∀ tb e args s v u, (limb_1_1.after args s (.returned v) u = true ∧ limb_1_2.after args s (.returned v) u = true ∧ True) → ReturnedEndW s (.returned v) u (Jvm.fieldLocs frame_1_writes args s ++ Jvm.arrayLocs frame_1_arrays args s ++ Jvm.staticLocs frame_1_statics s) 48 1216 → Post tb e args s (.returned v) u) :
    ArmFor flags0 classFile x code maxLocals ret World_1 tables_1 room_1 Calls_1 rest_1 Pre_1 Post := by
  intro l hfl _ _ p e ha hc hk s m args below hf hA hF happ hP
  obtain ⟨hcalls, hrest, hpre⟩ := hP
  obtain ⟨-, -, -, hnamed, -, -, -, hat⟩ := (Spec.applies_iff hf).mp happ
  obtain ⟨hg, hn⟩ := and_e (Cond.before_iff.mp (show (Jvm.Cond.and given_1 narrow_1).before args s = true from hpre))
  obtain ⟨gA0, gB0⟩ := and_e hg
  obtain ⟨gA1, gB1⟩ := and_e gB0
  obtain ⟨gA2, gB2⟩ := and_e gB1
  obtain ⟨gA3, gB3⟩ := and_e gB2
  obtain ⟨gA4, gB4⟩ := and_e gB3
  obtain ⟨gA5, gB5⟩ := and_e gB4
  obtain ⟨w0, w1, w2, w3, w4, w5, rfl⟩ : ∃ w0 w1 w2 w3 w4 w5 : Value, args = #[w0, w1, w2, w3, w4, w5] := by
    have hs : args.size = 6 := by simpa [Cond.value, given_1] using gA0
    obtain ⟨L⟩ := args
    match L, hs with
    | [w0, w1, w2, w3, w4, w5], _ => exact ⟨w0, w1, w2, w3, w4, w5, rfl⟩
  have hw := fun d (hd : d ∈ tables_1) => atoms_spec (ws := Jvm.Cond.code x code maxLocals ret :: tables_1) hat d (List.mem_cons_of_mem _ hd)
  have hfit : Fit s := fun {y c} hc i hi => by
    obtain ⟨ha, rfl⟩ := Array.getElem?_eq_some_iff.mp hc
    have q := List.all_eq_true.mp ((Array.all_eq_true_iff_forall_mem.mp hF) _ (Array.getElem_mem ha)) i (List.mem_range.mpr hi)
    simpa [Array.getElem?_eq_getElem hi] using q
  obtain ⟨hsets, hown0⟩ := atoms_of _ (rest_1_c_eq ▸ (show rest_1_c.before _ s = true from hrest))
  have hr0 := Cond.before_iff.mp hown0
  obtain ⟨i0, ei0⟩ := is_v gA1
  obtain rfl : w0 = (.int i0) := Option.some.inj ei0
  obtain ⟨i1, ei1⟩ := is_v gA2
  obtain rfl : w1 = (.int i1) := Option.some.inj ei1
  obtain ⟨i2, ei2⟩ := is_v gA3
  obtain rfl : w2 = (.int i2) := Option.some.inj ei2
  obtain ⟨i3, ei3⟩ := isL_v gA4
  obtain rfl : w3 = (.long i3) := Option.some.inj ei3
  obtain ⟨i4, ei4⟩ := isL_v gA5
  obtain rfl : w4 = (.long i4) := Option.some.inj ei4
  obtain ⟨i5, ei5⟩ := isL_v gB5
  obtain rfl : w5 = (.long i5) := Option.some.inj ei5
  obtain ⟨zc, cse⟩ := is_v (Cond.before_iff.mp (hsets _ (List.mem_of_getElem? (i := 7) rfl)))
  have oCS := Sta.start cse (Or.inl (hsets _ (List.mem_of_getElem? (i := 6) rfl)))
  have csn := Cond.before_iff.mp (hsets _ (List.mem_of_getElem? (i := 8) rfl))
  have oCz : ¬ zc = (0 : Int32) := gotF (Cond.eq_ints cse (Term.int_eval 0)) (by have q := not_v csn; simpa using q)
  have hJst : own_J s s.vm s.heap := own_Jstart hw (hsets _ (List.mem_of_getElem? (i := 8) rfl)) hcalls
  have lc2 := Cond.before_iff.mp (hsets _ (List.mem_of_getElem? (i := 2) rfl))
  have lc4 := Cond.before_iff.mp (hsets _ (List.mem_of_getElem? (i := 4) rfl))
  have lc5 := Cond.before_iff.mp (hsets _ (List.mem_of_getElem? (i := 5) rfl))
  obtain ⟨wc, lce⟩ := arr_v lc2
  obtain ⟨clc, lcA⟩ := Arr.start lce lc2
  have oCa := Sta.start lce (Or.inl (hsets _ (List.mem_of_getElem? (i := 1) rfl)))
  have lcn := own_lenOf lce (lcA.fin (Vm.Alike.refl _)) lc4
  have oBx : Bxs s wc clc "java/lang/Long" "J" (256 : Int32) own_bxv := Bxs.start (F := Term.op1 .i2l (.sub (.index 0) (.int 128))) (fun _ => lce) lcA lcn.1 lcn.2 (by decide) lc5 (fun X j hj h => eqv_l (i2l_at (own_subIdx hj)) h)
  obtain ⟨n, o, h1, h2, h3, _, L, rfl, ⟨⟨rfl, N, -⟩, -⟩, hq⟩ := rm_law l s _ hw oCS oCz oCa oBx tables_1 i0 i1 i2 i3 i4 i5  s.heap ⟨Nat.le_refl _, fun _ _ q => q⟩  p e ha hc hk s m _ below hf ((Spec.applies_iff_loose hf).mp happ).1 ⟨rfl, State.Warmed39.refl s, rfl, hJst⟩ trivial
  refine ⟨n, _, h1, h2, h3, hpost _ _ _ _ _ _ ⟨Cond.after_iff.mpr rfl, Cond.after_iff.mpr (eq_i res_at (Term.int_eval (1)) rfl), trivial⟩ ⟨hq.1, hq.2.1, hq.2.2.1, (hq.2.2.2.sift fun y hy => Or.inr (N y hy)).mono (by decide) (by decide)⟩⟩
theorem main_1_1 : Claimed_1_1 := comes_1 fun _ _ _ _ _ _ h hF => ⟨h.1, hF⟩
theorem main_1_2 : Claimed_1_2 := comes_1 fun _ _ _ _ _ _ h hF => ⟨h.2.1, hF⟩
end Jvm.Pilot.@@N@@
namespace Jvm.Pilot.@@N@@
open Jvm Jvm.ClassFile Sem Op Lib Jvm.Free Jvm.Stand Jvm.Pilot.@@N@@.Jvm.D
/-! MADE BY PROGRAM (witnessworld.py) out of the Statement's table words and the real class files: 25 classes; the members and pool entries that the words name. The judged class is class 1, her method 1. -/
namespace start1
open Jvm.ClassFile
def u (s : String) : CpInfo := .utf8 (stringToUtf16 s)
/-- a pool by its gaps: so many unusable entries, then the entry; so many at the end -/
def gap : Nat → List CpInfo → List CpInfo
  | 0, r => r
  | n + 1, r => .unusable :: gap n r
def poolList (es : List (Nat × CpInfo)) (last : Nat) : List CpInfo := es.foldr (fun e r => gap e.1 (e.2 :: r)) (gap last [])
def pool (es : List (Nat × CpInfo)) (last : Nat) : Array CpInfo := ⟨poolList es last⟩
def fileOf (pool : Array CpInfo) (this : Nat) (attrs : Array Attribute := #[]) (ms : Array MethodInfo := #[]) (fl : Nat := 33) (sup : Nat := 0) (ifs : Array Nat := #[]) (fds : Array FieldInfo := #[]) : ClassFile where
  minorVersion := 0
  majorVersion := 65
  constantPool := pool
  accessFlags := fl
  thisClass := this
  superClass := sup
  interfaces := ifs
  fields := fds
  methods := ms
  attributes := attrs
def plain (name : String) (sup : Option ClassId) : Class where
  name := name
  kind := .ordinary
  loader := none
  accessFlags := 33
  super := sup
  interfaces := #[]
  cf := none
  fields := #[]
  methods := #[]
  instanceTypes := #[]
  staticTypes := #[]
  resolved := #[]
  callSites := []
  init := .initialized
  statics := none
  mirror := none

def pool0 : Array CpInfo := pool [(5, u "<init>"), (0, u "()V"), (1, .class_ 10), (1, u "java/lang/Object")] 113

def k0c0 : Code := { maxStack := 0, maxLocals := 1, code := object_method_1_code, exceptionTable := #[], attributes := #[] }
def k0m0 : Method := { name := "<init>", desc := "()V", sig := { parameters := [], returnType := none }, accessFlags := 1, code := some k0c0 }
/-- java/lang/Object -/
def k0 : Class := { plain "java/lang/Object" none with
  accessFlags := 33
  interfaces := #[]
  cf := some (fileOf pool0 8 #[] #[{ accessFlags := 1, nameIndex := 5, descriptorIndex := 6, attributes := #[] }] 33 0 #[] #[])
  fields := #[]
  methods := #[k0m0]
  instanceTypes := #[]
  staticTypes := #[]
  resolved := Array.replicate 124 none
  statics := none }

def pool1 : Array CpInfo := pool [(2, .class_ 4), (1, u "java/lang/Object"), (0, u "<init>"), (0, u "()V"), (0, .integer 2147483647), (0, .class_ 9), (0, u "java/lang/String"), (0, .methodref 8 11), (0, .nameAndType 5 12), (0, u "([C)V"), (0, .methodref 14 15), (0, .class_ 16), (0, .nameAndType 17 18), (0, u "java/lang/Long"), (0, u "valueOf"), (0, u "(J)Ljava/lang/Long;"), (0, .class_ 20), (0, u "com/example/countersign/countersign/server/Exchange"), (0, .methodref 19 22), (0, .nameAndType 5 23), (0, u "(Ljava/lang/String;Ljava/lang/Long;Ljava/lang/Long;Ljava/lang/Long;Ljava/lang/String;)V"), (0, .methodref 19 25), (0, .nameAndType 26 27), (0, u "succeeded"), (0, u "()Z"), (0, .methodref 19 29), (0, .nameAndType 30 31), (0, u "failed"), (0, u "(Ljava/lang/String;)Lcom/example/countersign/countersign/server/Exchange;"), (0, .methodref 19 33), (0, .nameAndType 34 35), (0, u "lasting"), (0, u "(Ljava/lang/String;J)Lcom/example/countersign/countersign/server/Exchange;"), (0, .methodref 19 37), (0, .nameAndType 38 39), (0, u "expiring"), (0, u "(Ljava/lang/String;JJJ)Lcom/example/countersign/countersign/server/Exchange;"), (0, .class_ 41), (0, u "com/example/countersign/countersign/server/ExchangeSucceededPinLaw"), (2, u "law"), (0, u "(IIIJJJ)Z")] 5

def k1m0 : Method := { name := "<init>", desc := "()V", sig := { parameters := [], returnType := none }, accessFlags := 1, code := none }
def k1c1 : Code := { maxStack := 7, maxLocals := 29, code := code, exceptionTable := #[], attributes := #[] }
def k1m1 : Method := { name := "law", desc := "(IIIJJJ)Z", sig := { parameters := [.int, .int, .int, .long, .long, .long], returnType := some .boolean }, accessFlags := 9, code := some k1c1 }
/-- com/example/countersign/countersign/server/ExchangeSucceededPinLaw -/
def k1 : Class := { plain "com/example/countersign/countersign/server/ExchangeSucceededPinLaw" (some 0) with
  accessFlags := 49
  interfaces := #[]
  cf := some (fileOf pool1 40 #[] #[{ accessFlags := 1, nameIndex := 5, descriptorIndex := 6, attributes := #[] }, { accessFlags := 9, nameIndex := 44, descriptorIndex := 45, attributes := #[] }] 49 2 #[] #[])
  fields := #[]
  methods := #[k1m0, k1m1]
  instanceTypes := #[]
  staticTypes := #[]
  resolved := Array.replicate 51 none
  statics := none }

def pool2 : Array CpInfo := pool [(1, .class_ 2), (0, u "java/io/Serializable"), (0, .class_ 4), (0, u "java/lang/Object")] 2

/-- java/io/Serializable -/
def k2 : Class := { plain "java/io/Serializable" (some 0) with
  accessFlags := 1537
  interfaces := #[]
  cf := some (fileOf pool2 1 #[] #[] 1537 3 #[] #[])
  fields := #[]
  methods := #[]
  instanceTypes := #[]
  staticTypes := #[]
  resolved := Array.replicate 7 none
  statics := none }

def pool3 : Array CpInfo := pool [(1, .class_ 2), (0, u "java/lang/Comparable"), (0, .class_ 4), (0, u "java/lang/Object")] 7

/-- java/lang/Comparable -/
def k3 : Class := { plain "java/lang/Comparable" (some 0) with
  accessFlags := 1537
  interfaces := #[]
  cf := some (fileOf pool3 1 #[] #[] 1537 3 #[] #[])
  fields := #[]
  methods := #[]
  instanceTypes := #[]
  staticTypes := #[]
  resolved := Array.replicate 12 none
  statics := none }

def pool4 : Array CpInfo := pool [(2, .class_ 4), (1, u "java/lang/CharSequence"), (42, .class_ 48), (0, u "java/lang/CharSequence$1CodePointIterator"), (10, .class_ 60), (0, u "java/lang/CharSequence$1CharIterator"), (5, .class_ 67), (0, u "java/lang/Object")] 63

/-- java/lang/CharSequence -/
def k4 : Class := { plain "java/lang/CharSequence" (some 0) with
  accessFlags := 1537
  interfaces := #[]
  cf := some (fileOf pool4 2 #[.nestMembers #[47, 59]] #[] 1537 66 #[] #[])
  fields := #[]
  methods := #[]
  instanceTypes := #[]
  staticTypes := #[]
  resolved := Array.replicate 131 none
  statics := none }

def pool5 : Array CpInfo := pool [(1, .class_ 2), (0, u "java/lang/constant/Constable"), (0, .class_ 4), (0, u "java/lang/Object")] 6

/-- java/lang/constant/Constable -/
def k5 : Class := { plain "java/lang/constant/Constable" (some 0) with
  accessFlags := 1537
  interfaces := #[]
  cf := some (fileOf pool5 1 #[] #[] 1537 3 #[] #[])
  fields := #[]
  methods := #[]
  instanceTypes := #[]
  staticTypes := #[]
  resolved := Array.replicate 11 none
  statics := none }

def pool6 : Array CpInfo := pool [(1, .class_ 2), (0, u "java/lang/constant/ConstantDesc"), (0, .class_ 4), (0, u "java/lang/Object")] 32

/-- java/lang/constant/ConstantDesc -/
def k6 : Class := { plain "java/lang/constant/ConstantDesc" (some 0) with
  accessFlags := 1537
  interfaces := #[]
  cf := some (fileOf pool6 1 #[] #[] 1537 3 #[] #[])
  fields := #[]
  methods := #[]
  instanceTypes := #[]
  staticTypes := #[]
  resolved := Array.replicate 37 none
  statics := none }

def pool7 : Array CpInfo := pool [(1, .methodref 2 3), (0, .class_ 4), (0, .nameAndType 5 6), (0, u "java/lang/Object"), (0, u "<init>"), (0, u "()V"), (0, .string 8), (0, u ""), (0, .fieldref 10 11), (0, .class_ 12), (0, .nameAndType 13 14), (0, u "java/lang/String"), (0, u "value"), (0, u "[B"), (0, .fieldref 10 16), (0, .nameAndType 17 18), (0, u "coder"), (0, u "B"), (2, u "hash"), (0, u "I"), (2, u "hashIsZero"), (0, u "Z"), (0, .methodref 10 28), (0, .nameAndType 5 29), (0, u "([CIILjava/lang/Void;)V"), (8, .fieldref 10 39), (0, .nameAndType 40 26), (0, u "COMPACT_STRINGS"), (1, .class_ 44), (1, u "java/lang/StringUTF16"), (0, u "compress"), (1, .methodref 42 48), (0, .nameAndType 49 50), (0, u "coderFromArrayLen"), (0, u "([BI)B"), (126, .methodref 42 178), (0, .nameAndType 45 179), (0, u "([CII)[B"), (395, .class_ 576), (0, u "java/lang/CharSequence"), (22, u "CASE_INSENSITIVE_ORDER"), (0, u "Ljava/util/Comparator;"), (409, u "([C)V"), (90, u "serialPersistentFields"), (0, u "[Ljava/io/ObjectStreamField;"), (0, .class_ 1104), (0, u "java/lang/String$CaseInsensitiveComparator"), (1, .class_ 1107), (0, u "java/io/Serializable"), (0, .class_ 1109), (0, u "java/lang/Comparable"), (0, .class_ 1111), (0, u "java/lang/constant/Constable"), (0, .class_ 1113), (0, u "java/lang/constant/ConstantDesc"), (2, u "serialVersionUID"), (0, u "J"), (3, u "REPL"), (0, u "C"), (2, u "LATIN1"), (1, u "UTF16")] 323

def k7m0 : Method := { name := "<init>", desc := "()V", sig := { parameters := [], returnType := none }, accessFlags := 1, code := none }
def k7c1 : Code := { maxStack := 5, maxLocals := 2, code := jdk_42_method_3_code, exceptionTable := #[], attributes := #[] }
def k7m1 : Method := { name := "<init>", desc := "([C)V", sig := { parameters := [(.array .char)], returnType := none }, accessFlags := 1, code := some k7c1 }
def k7c2 : Code := { maxStack := 4, maxLocals := 6, code := jdk_42_method_149_code, exceptionTable := #[], attributes := #[] }
def k7m2 : Method := { name := "<init>", desc := "([CIILjava/lang/Void;)V", sig := { parameters := [(.array .char), .int, .int, (.object "java/lang/Void")], returnType := none }, accessFlags := 2, code := some k7c2 }
/-- java/lang/String -/
def k7 : Class := { plain "java/lang/String" (some 0) with
  accessFlags := 49
  interfaces := #[2, 3, 4, 5, 6]
  cf := some (fileOf pool7 10 #[.nestMembers #[1103]] #[{ accessFlags := 1, nameIndex := 5, descriptorIndex := 6, attributes := #[] }, { accessFlags := 1, nameIndex := 5, descriptorIndex := 1010, attributes := #[] }, { accessFlags := 2, nameIndex := 5, descriptorIndex := 29, attributes := #[] }] 49 2 #[1106, 1108, 575, 1110, 1112] #[{ accessFlags := 18, nameIndex := 13, descriptorIndex := 14, attributes := #[] }, { accessFlags := 18, nameIndex := 17, descriptorIndex := 18, attributes := #[] }, { accessFlags := 2, nameIndex := 21, descriptorIndex := 22, attributes := #[] }, { accessFlags := 2, nameIndex := 25, descriptorIndex := 26, attributes := #[] }, { accessFlags := 26, nameIndex := 1116, descriptorIndex := 1117, attributes := #[] }, { accessFlags := 24, nameIndex := 40, descriptorIndex := 26, attributes := #[] }, { accessFlags := 26, nameIndex := 1101, descriptorIndex := 1102, attributes := #[] }, { accessFlags := 26, nameIndex := 1121, descriptorIndex := 1122, attributes := #[] }, { accessFlags := 25, nameIndex := 599, descriptorIndex := 600, attributes := #[] }, { accessFlags := 24, nameIndex := 1125, descriptorIndex := 18, attributes := #[] }, { accessFlags := 24, nameIndex := 1127, descriptorIndex := 18, attributes := #[] }])
  fields := #[{ name := "value", type := (.array .byte), accessFlags := 18, slot := 0, constantValue := 0 }, { name := "coder", type := .byte, accessFlags := 18, slot := 1, constantValue := 0 }, { name := "hash", type := .int, accessFlags := 2, slot := 2, constantValue := 0 }, { name := "hashIsZero", type := .boolean, accessFlags := 2, slot := 3, constantValue := 0 }, { name := "serialVersionUID", type := .long, accessFlags := 26, slot := 0, constantValue := 0 }, { name := "COMPACT_STRINGS", type := .boolean, accessFlags := 24, slot := 1, constantValue := 0 }, { name := "serialPersistentFields", type := (.array (.object "java/io/ObjectStreamField")), accessFlags := 26, slot := 2, constantValue := 0 }, { name := "REPL", type := .char, accessFlags := 26, slot := 3, constantValue := 0 }, { name := "CASE_INSENSITIVE_ORDER", type := (.object "java/util/Comparator"), accessFlags := 25, slot := 4, constantValue := 0 }, { name := "LATIN1", type := .byte, accessFlags := 24, slot := 5, constantValue := 0 }, { name := "UTF16", type := .byte, accessFlags := 24, slot := 6, constantValue := 0 }]
  methods := #[k7m0, k7m1, k7m2]
  instanceTypes := #[(.array .byte), .byte, .int, .boolean]
  staticTypes := #[.long, .boolean, (.array (.object "java/io/ObjectStreamField")), .char, (.object "java/util/Comparator"), .byte, .byte]
  resolved := Array.replicate 1451 none
  statics := some 0 }

def pool8 : Array CpInfo := pool [(1, .methodref 2 3), (0, .class_ 4), (0, .nameAndType 5 6), (0, u "java/lang/Object"), (0, u "<init>"), (0, u "()V"), (0, .class_ 8), (0, u "java/lang/Record")] 13

def k8c0 : Code := { maxStack := 1, maxLocals := 1, code := jdk_30_method_1_code, exceptionTable := #[], attributes := #[] }
def k8m0 : Method := { name := "<init>", desc := "()V", sig := { parameters := [], returnType := none }, accessFlags := 4, code := some k8c0 }
/-- java/lang/Record -/
def k8 : Class := { plain "java/lang/Record" (some 0) with
  accessFlags := 1057
  interfaces := #[]
  cf := some (fileOf pool8 7 #[] #[{ accessFlags := 4, nameIndex := 5, descriptorIndex := 6, attributes := #[] }] 1057 2 #[] #[])
  fields := #[]
  methods := #[k8m0]
  instanceTypes := #[]
  staticTypes := #[]
  resolved := Array.replicate 22 none
  statics := none }

def pool9 : Array CpInfo := pool [(1, .methodref 2 3), (0, .class_ 4), (0, .nameAndType 5 6), (0, u "java/lang/Record"), (0, u "<init>"), (0, u "()V"), (0, .fieldref 8 9), (0, .class_ 10), (0, .nameAndType 11 12), (0, u "com/example/countersign/countersign/server/Exchange"), (0, u "artefact"), (0, u "Ljava/lang/String;"), (0, .fieldref 8 14), (0, .nameAndType 15 16), (0, u "activatedAt"), (0, u "Ljava/lang/Long;"), (0, .fieldref 8 18), (0, .nameAndType 19 16), (0, u "expiresAt"), (0, .fieldref 8 21), (0, .nameAndType 22 16), (0, u "refreshAt"), (0, .fieldref 8 24), (0, .nameAndType 25 12), (0, u "failure"), (0, .methodref 27 28), (0, .class_ 29), (0, .nameAndType 30 31), (0, u "java/lang/Long"), (0, u "valueOf"), (0, u "(J)Ljava/lang/Long;"), (0, .methodref 8 33), (0, .nameAndType 5 34), (0, u "(Ljava/lang/String;Ljava/lang/Long;Ljava/lang/Long;Ljava/lang/Long;Ljava/lang/String;)V"), (6, u "succeeded"), (0, u "()Z"), (18, u "lasting"), (0, u "(Ljava/lang/String;J)Lcom/example/countersign/countersign/server/Exchange;"), (0, u "expiring"), (0, u "(Ljava/lang/String;JJJ)Lcom/example/countersign/countersign/server/Exchange;"), (0, u "failed"), (0, u "(Ljava/lang/String;)Lcom/example/countersign/countersign/server/Exchange;")] 44

def k9c0 : Code := { maxStack := 2, maxLocals := 6, code := prog_24_method_1_code, exceptionTable := #[], attributes := #[] }
def k9m0 : Method := { name := "<init>", desc := "(Ljava/lang/String;Ljava/lang/Long;Ljava/lang/Long;Ljava/lang/Long;Ljava/lang/String;)V", sig := { parameters := [(.object "java/lang/String"), (.object "java/lang/Long"), (.object "java/lang/Long"), (.object "java/lang/Long"), (.object "java/lang/String")], returnType := none }, accessFlags := 0, code := some k9c0 }
def k9c1 : Code := { maxStack := 7, maxLocals := 3, code := prog_24_method_2_code, exceptionTable := #[], attributes := #[] }
def k9m1 : Method := { name := "lasting", desc := "(Ljava/lang/String;J)Lcom/example/countersign/countersign/server/Exchange;", sig := { parameters := [(.object "java/lang/String"), .long], returnType := some (.object "com/example/countersign/countersign/server/Exchange") }, accessFlags := 8, code := some k9c1 }
def k9c2 : Code := { maxStack := 7, maxLocals := 7, code := prog_24_method_3_code, exceptionTable := #[], attributes := #[] }
def k9m2 : Method := { name := "expiring", desc := "(Ljava/lang/String;JJJ)Lcom/example/countersign/countersign/server/Exchange;", sig := { parameters := [(.object "java/lang/String"), .long, .long, .long], returnType := some (.object "com/example/countersign/countersign/server/Exchange") }, accessFlags := 8, code := some k9c2 }
def k9c3 : Code := { maxStack := 7, maxLocals := 1, code := prog_24_method_4_code, exceptionTable := #[], attributes := #[] }
def k9m3 : Method := { name := "failed", desc := "(Ljava/lang/String;)Lcom/example/countersign/countersign/server/Exchange;", sig := { parameters := [(.object "java/lang/String")], returnType := some (.object "com/example/countersign/countersign/server/Exchange") }, accessFlags := 8, code := some k9c3 }
def k9c4 : Code := { maxStack := 1, maxLocals := 1, code := prog_24_method_5_code, exceptionTable := #[], attributes := #[] }
def k9m4 : Method := { name := "succeeded", desc := "()Z", sig := { parameters := [], returnType := some .boolean }, accessFlags := 0, code := some k9c4 }
/-- com/example/countersign/countersign/server/Exchange -/
def k9 : Class := { plain "com/example/countersign/countersign/server/Exchange" (some 8) with
  accessFlags := 48
  interfaces := #[]
  cf := some (fileOf pool9 8 #[] #[{ accessFlags := 0, nameIndex := 5, descriptorIndex := 34, attributes := #[] }, { accessFlags := 8, nameIndex := 61, descriptorIndex := 62, attributes := #[] }, { accessFlags := 8, nameIndex := 63, descriptorIndex := 64, attributes := #[] }, { accessFlags := 8, nameIndex := 65, descriptorIndex := 66, attributes := #[] }, { accessFlags := 0, nameIndex := 41, descriptorIndex := 42, attributes := #[] }] 48 2 #[] #[{ accessFlags := 18, nameIndex := 11, descriptorIndex := 12, attributes := #[] }, { accessFlags := 18, nameIndex := 15, descriptorIndex := 16, attributes := #[] }, { accessFlags := 18, nameIndex := 19, descriptorIndex := 16, attributes := #[] }, { accessFlags := 18, nameIndex := 22, descriptorIndex := 16, attributes := #[] }, { accessFlags := 18, nameIndex := 25, descriptorIndex := 12, attributes := #[] }])
  fields := #[{ name := "artefact", type := (.object "java/lang/String"), accessFlags := 18, slot := 0, constantValue := 0 }, { name := "activatedAt", type := (.object "java/lang/Long"), accessFlags := 18, slot := 1, constantValue := 0 }, { name := "expiresAt", type := (.object "java/lang/Long"), accessFlags := 18, slot := 2, constantValue := 0 }, { name := "refreshAt", type := (.object "java/lang/Long"), accessFlags := 18, slot := 3, constantValue := 0 }, { name := "failure", type := (.object "java/lang/String"), accessFlags := 18, slot := 4, constantValue := 0 }]
  methods := #[k9m0, k9m1, k9m2, k9m3, k9m4]
  instanceTypes := #[(.object "java/lang/String"), (.object "java/lang/Long"), (.object "java/lang/Long"), (.object "java/lang/Long"), (.object "java/lang/String")]
  staticTypes := #[]
  resolved := Array.replicate 111 none
  statics := none }

def pool10 : Array CpInfo := pool [(1, .methodref 2 3), (0, .class_ 4), (0, .nameAndType 5 6), (0, u "java/lang/Object"), (0, u "<init>"), (0, u "()V"), (1, .class_ 10), (1, u "java/lang/Number"), (2, .class_ 14), (0, u "java/io/Serializable"), (0, u "serialVersionUID"), (0, u "J")] 20

def k10c0 : Code := { maxStack := 1, maxLocals := 1, code := jdk_18_method_1_code, exceptionTable := #[], attributes := #[] }
def k10m0 : Method := { name := "<init>", desc := "()V", sig := { parameters := [], returnType := none }, accessFlags := 1, code := some k10c0 }
/-- java/lang/Number -/
def k10 : Class := { plain "java/lang/Number" (some 0) with
  accessFlags := 1057
  interfaces := #[2]
  cf := some (fileOf pool10 8 #[] #[{ accessFlags := 1, nameIndex := 5, descriptorIndex := 6, attributes := #[] }] 1057 2 #[13] #[{ accessFlags := 26, nameIndex := 15, descriptorIndex := 16, attributes := #[] }])
  fields := #[{ name := "serialVersionUID", type := .long, accessFlags := 26, slot := 0, constantValue := 0 }]
  methods := #[k10m0]
  instanceTypes := #[]
  staticTypes := #[.long]
  resolved := Array.replicate 37 none
  statics := none }

def pool11 : Array CpInfo := pool [(1, .class_ 2), (0, u "java/lang/Long"), (55, .nameAndType 59 60), (0, u "<init>"), (0, u "()V"), (24, u "valueOf"), (143, u "(J)Ljava/lang/Long;"), (0, .long 18446744073709551488), (1, .long 127), (1, .fieldref 235 236), (0, .class_ 237), (0, .nameAndType 238 239), (0, u "java/lang/Long$LongCache"), (0, u "cache"), (0, u "[Ljava/lang/Long;"), (0, .methodref 1 241), (0, .nameAndType 59 242), (0, u "(J)V"), (27, .methodref 271 58), (0, .class_ 272), (0, u "java/lang/Number"), (0, .fieldref 1 274), (0, .nameAndType 275 276), (0, u "value"), (0, u "J"), (84, u "TYPE"), (0, u "Ljava/lang/Class;"), (0, .class_ 364), (0, u "java/lang/Comparable"), (0, .class_ 366), (0, u "java/lang/constant/Constable"), (0, .class_ 368), (0, u "java/lang/constant/ConstantDesc"), (0, u "MIN_VALUE"), (1, u "MAX_VALUE"), (4, u "SIZE"), (0, u "I"), (1, u "BYTES"), (1, u "serialVersionUID")] 142

def k11c0 : Code := { maxStack := 4, maxLocals := 3, code := jdk_35_method_24_code, exceptionTable := #[], attributes := #[] }
def k11m0 : Method := { name := "valueOf", desc := "(J)Ljava/lang/Long;", sig := { parameters := [.long], returnType := some (.object "java/lang/Long") }, accessFlags := 9, code := some k11c0 }
def k11c1 : Code := { maxStack := 3, maxLocals := 3, code := jdk_35_method_26_code, exceptionTable := #[], attributes := #[] }
def k11m1 : Method := { name := "<init>", desc := "(J)V", sig := { parameters := [.long], returnType := none }, accessFlags := 1, code := some k11c1 }
/-- java/lang/Long -/
def k11 : Class := { plain "java/lang/Long" (some 10) with
  accessFlags := 49
  interfaces := #[3, 5, 6]
  cf := some (fileOf pool11 1 #[.nestMembers #[235]] #[{ accessFlags := 9, nameIndex := 85, descriptorIndex := 229, attributes := #[] }, { accessFlags := 1, nameIndex := 59, descriptorIndex := 242, attributes := #[] }] 49 271 #[363, 365, 367] #[{ accessFlags := 25, nameIndex := 369, descriptorIndex := 276, attributes := #[] }, { accessFlags := 25, nameIndex := 371, descriptorIndex := 276, attributes := #[] }, { accessFlags := 25, nameIndex := 361, descriptorIndex := 362, attributes := #[] }, { accessFlags := 18, nameIndex := 275, descriptorIndex := 276, attributes := #[] }, { accessFlags := 25, nameIndex := 376, descriptorIndex := 377, attributes := #[] }, { accessFlags := 25, nameIndex := 379, descriptorIndex := 377, attributes := #[] }, { accessFlags := 26, nameIndex := 381, descriptorIndex := 276, attributes := #[] }])
  fields := #[{ name := "MIN_VALUE", type := .long, accessFlags := 25, slot := 0, constantValue := 0 }, { name := "MAX_VALUE", type := .long, accessFlags := 25, slot := 1, constantValue := 0 }, { name := "TYPE", type := (.object "java/lang/Class"), accessFlags := 25, slot := 2, constantValue := 0 }, { name := "value", type := .long, accessFlags := 18, slot := 0, constantValue := 0 }, { name := "SIZE", type := .int, accessFlags := 25, slot := 3, constantValue := 0 }, { name := "BYTES", type := .int, accessFlags := 25, slot := 4, constantValue := 0 }, { name := "serialVersionUID", type := .long, accessFlags := 26, slot := 5, constantValue := 0 }]
  methods := #[k11m0, k11m1]
  instanceTypes := #[.long]
  staticTypes := #[.long, .long, (.object "java/lang/Class"), .int, .int, .long]
  resolved := Array.replicate 524 none
  statics := none }

def pool12 : Array CpInfo := pool [(2, .class_ 4), (1, u "java/lang/Object"), (0, u "<init>"), (0, u "()V"), (0, .class_ 8), (0, u "java/lang/Long"), (7, .class_ 18), (1, u "java/lang/Long$LongCache"), (0, u "$assertionsDisabled"), (0, u "Z"), (8, u "archivedCache"), (0, u "[Ljava/lang/Long;"), (7, u "cache")] 24

def k12m0 : Method := { name := "<init>", desc := "()V", sig := { parameters := [], returnType := none }, accessFlags := 2, code := none }
/-- java/lang/Long$LongCache -/
def k12 : Class := { plain "java/lang/Long$LongCache" (some 0) with
  accessFlags := 48
  interfaces := #[]
  cf := some (fileOf pool12 16 #[.nestHost 7] #[{ accessFlags := 2, nameIndex := 5, descriptorIndex := 6, attributes := #[] }] 48 2 #[] #[{ accessFlags := 24, nameIndex := 38, descriptorIndex := 30, attributes := #[] }, { accessFlags := 8, nameIndex := 29, descriptorIndex := 30, attributes := #[] }, { accessFlags := 4120, nameIndex := 19, descriptorIndex := 20, attributes := #[] }])
  fields := #[{ name := "cache", type := (.array (.object "java/lang/Long")), accessFlags := 24, slot := 0, constantValue := 0 }, { name := "archivedCache", type := (.array (.object "java/lang/Long")), accessFlags := 8, slot := 1, constantValue := 0 }, { name := "$assertionsDisabled", type := .boolean, accessFlags := 4120, slot := 2, constantValue := 0 }]
  methods := #[k12m0]
  instanceTypes := #[]
  staticTypes := #[(.array (.object "java/lang/Long")), (.array (.object "java/lang/Long")), .boolean]
  resolved := Array.replicate 63 none
  statics := some 1 }

def pool13 : Array CpInfo := pool [(6, .class_ 8), (1, u "java/lang/Object"), (0, u "<init>"), (0, u "()V"), (1, .class_ 14), (1, u "java/lang/StringUTF16"), (31, u "$assertionsDisabled"), (0, u "Z"), (13, u "HI_BYTE_SHIFT"), (0, u "I"), (2, u "LO_BYTE_SHIFT"), (49, .methodref 12 116), (0, .nameAndType 117 118), (0, u "compress"), (0, u "([CI[BII)I"), (3, u "([CII)[B"), (138, u "coderFromArrayLen"), (0, u "([BI)B"), (106, .class_ 371), (1, u "java/lang/StringUTF16$LinesSpliterator"), (58, u "MAX_LENGTH"), (196, .class_ 628), (0, u "java/lang/StringUTF16$CodePointsSpliterator"), (0, .class_ 630), (0, u "java/lang/StringUTF16$CharsSpliterator")] 4

def k13m0 : Method := { name := "<init>", desc := "()V", sig := { parameters := [], returnType := none }, accessFlags := 0, code := none }
def k13c1 : Code := { maxStack := 2, maxLocals := 2, code := jdk_52_method_15_code, exceptionTable := #[], attributes := #[] }
def k13m1 : Method := { name := "coderFromArrayLen", desc := "([BI)B", sig := { parameters := [(.array .byte), .int], returnType := some .byte }, accessFlags := 8, code := some k13c1 }
def k13c2 : Code := { maxStack := 5, maxLocals := 6, code := jdk_52_method_16_code, exceptionTable := #[], attributes := #[] }
def k13m2 : Method := { name := "compress", desc := "([CII)[B", sig := { parameters := [(.array .char), .int, .int], returnType := some (.array .byte) }, accessFlags := 9, code := some k13c2 }
def k13c3 : Code := { maxStack := 3, maxLocals := 7, code := jdk_52_method_21_code, exceptionTable := #[], attributes := #[] }
def k13m3 : Method := { name := "compress", desc := "([CI[BII)I", sig := { parameters := [(.array .char), .int, (.array .byte), .int, .int], returnType := some .int }, accessFlags := 9, code := some k13c3 }
/-- java/lang/StringUTF16 -/
def k13 : Class := { plain "java/lang/StringUTF16" (some 0) with
  accessFlags := 48
  interfaces := #[]
  cf := some (fileOf pool13 12 #[.nestMembers #[627, 629, 369]] #[{ accessFlags := 0, nameIndex := 9, descriptorIndex := 10, attributes := #[] }, { accessFlags := 8, nameIndex := 261, descriptorIndex := 262, attributes := #[] }, { accessFlags := 9, nameIndex := 117, descriptorIndex := 122, attributes := #[] }, { accessFlags := 9, nameIndex := 117, descriptorIndex := 118, attributes := #[] }] 48 6 #[] #[{ accessFlags := 26, nameIndex := 61, descriptorIndex := 62, attributes := #[] }, { accessFlags := 26, nameIndex := 65, descriptorIndex := 62, attributes := #[] }, { accessFlags := 24, nameIndex := 430, descriptorIndex := 62, attributes := #[] }, { accessFlags := 4120, nameIndex := 46, descriptorIndex := 47, attributes := #[] }])
  fields := #[{ name := "HI_BYTE_SHIFT", type := .int, accessFlags := 26, slot := 0, constantValue := 0 }, { name := "LO_BYTE_SHIFT", type := .int, accessFlags := 26, slot := 1, constantValue := 0 }, { name := "MAX_LENGTH", type := .int, accessFlags := 24, slot := 2, constantValue := 0 }, { name := "$assertionsDisabled", type := .boolean, accessFlags := 4120, slot := 3, constantValue := 0 }]
  methods := #[k13m0, k13m1, k13m2, k13m3]
  instanceTypes := #[]
  staticTypes := #[.int, .int, .int, .boolean]
  resolved := Array.replicate 635 none
  statics := none }

def pool14 : Array CpInfo := pool [(4, .class_ 6), (1, u "java/lang/Object"), (0, u "<init>"), (0, u "()V"), (5, .class_ 16), (1, u "java/lang/StringLatin1"), (104, u "$assertionsDisabled"), (0, u "Z"), (98, .class_ 223), (1, u "java/lang/StringLatin1$LinesSpliterator"), (166, .class_ 391), (0, u "java/lang/StringLatin1$CharsSpliterator")] 3

def k14m0 : Method := { name := "<init>", desc := "()V", sig := { parameters := [], returnType := none }, accessFlags := 0, code := none }
/-- java/lang/StringLatin1 -/
def k14 : Class := { plain "java/lang/StringLatin1" (some 0) with
  accessFlags := 48
  interfaces := #[]
  cf := some (fileOf pool14 14 #[.nestMembers #[390, 221]] #[{ accessFlags := 0, nameIndex := 7, descriptorIndex := 8, attributes := #[] }] 48 4 #[] #[{ accessFlags := 4120, nameIndex := 121, descriptorIndex := 122, attributes := #[] }])
  fields := #[{ name := "$assertionsDisabled", type := .boolean, accessFlags := 4120, slot := 0, constantValue := 0 }]
  methods := #[k14m0]
  instanceTypes := #[]
  staticTypes := #[.boolean]
  resolved := Array.replicate 395 none
  statics := none }

def pool15 : Array CpInfo := pool [(2, .class_ 4), (1, u "java/lang/Object"), (0, u "<init>"), (0, u "()V"), (17, .class_ 26), (1, u "jdk/internal/util/Preconditions"), (28, .class_ 56), (0, u "jdk/internal/util/Preconditions$4"), (57, .class_ 115), (0, u "jdk/internal/util/Preconditions$1"), (7, u "SIOOBE_FORMATTER"), (0, u "Ljava/util/function/BiFunction;"), (0, .class_ 126), (0, u "jdk/internal/util/Preconditions$2"), (3, u "AIOOBE_FORMATTER"), (0, .class_ 132), (0, u "jdk/internal/util/Preconditions$3"), (3, u "IOOBE_FORMATTER")] 57

def k15m0 : Method := { name := "<init>", desc := "()V", sig := { parameters := [], returnType := none }, accessFlags := 1, code := none }
/-- jdk/internal/util/Preconditions -/
def k15 : Class := { plain "jdk/internal/util/Preconditions" (some 0) with
  accessFlags := 33
  interfaces := #[]
  cf := some (fileOf pool15 24 #[.nestMembers #[55, 131, 125, 114]] #[{ accessFlags := 1, nameIndex := 5, descriptorIndex := 6, attributes := #[] }] 33 2 #[] #[{ accessFlags := 25, nameIndex := 123, descriptorIndex := 124, attributes := #[] }, { accessFlags := 25, nameIndex := 130, descriptorIndex := 124, attributes := #[] }, { accessFlags := 25, nameIndex := 136, descriptorIndex := 124, attributes := #[] }])
  fields := #[{ name := "SIOOBE_FORMATTER", type := (.object "java/util/function/BiFunction"), accessFlags := 25, slot := 0, constantValue := 0 }, { name := "AIOOBE_FORMATTER", type := (.object "java/util/function/BiFunction"), accessFlags := 25, slot := 1, constantValue := 0 }, { name := "IOOBE_FORMATTER", type := (.object "java/util/function/BiFunction"), accessFlags := 25, slot := 2, constantValue := 0 }]
  methods := #[k15m0]
  instanceTypes := #[]
  staticTypes := #[(.object "java/util/function/BiFunction"), (.object "java/util/function/BiFunction"), (.object "java/util/function/BiFunction")]
  resolved := Array.replicate 194 none
  statics := some 2 }

def pool16 : Array CpInfo := pool [(9, u "<init>"), (6, .class_ 18), (1, u "java/lang/Object"), (0, u "()V"), (1, .class_ 23), (1, u "jdk/internal/util/ArraysSupport"), (0, u "LOG2_ARRAY_LONG_INDEX_SCALE"), (0, u "I"), (2, u "U"), (0, u "Ljdk/internal/misc/Unsafe;"), (8, u "BIG_ENDIAN"), (0, u "Z"), (8, u "LOG2_BYTE_BIT_SIZE"), (4, u "LOG2_ARRAY_INT_INDEX_SCALE"), (54, u "JLA"), (0, u "Ljdk/internal/access/JavaLangAccess;"), (11, u "LOG2_ARRAY_BOOLEAN_INDEX_SCALE"), (9, u "LOG2_ARRAY_BYTE_INDEX_SCALE"), (5, u "LOG2_ARRAY_CHAR_INDEX_SCALE"), (5, u "LOG2_ARRAY_SHORT_INDEX_SCALE"), (18, u "LOG2_ARRAY_FLOAT_INDEX_SCALE"), (24, u "LOG2_ARRAY_DOUBLE_INDEX_SCALE"), (89, u "T_BOOLEAN"), (2, u "T_CHAR"), (1, u "T_FLOAT"), (1, u "T_DOUBLE"), (1, u "T_BYTE"), (1, u "T_SHORT"), (1, u "T_INT"), (1, u "T_LONG"), (1, u "SOFT_MAX_ARRAY_LENGTH")] 83

def k16m0 : Method := { name := "<init>", desc := "()V", sig := { parameters := [], returnType := none }, accessFlags := 2, code := none }
/-- jdk/internal/util/ArraysSupport -/
def k16 : Class := { plain "jdk/internal/util/ArraysSupport" (some 0) with
  accessFlags := 33
  interfaces := #[]
  cf := some (fileOf pool16 21 #[] #[{ accessFlags := 2, nameIndex := 9, descriptorIndex := 19, attributes := #[] }] 33 16 #[] #[{ accessFlags := 24, nameIndex := 28, descriptorIndex := 29, attributes := #[] }, { accessFlags := 26, nameIndex := 38, descriptorIndex := 39, attributes := #[] }, { accessFlags := 25, nameIndex := 121, descriptorIndex := 25, attributes := #[] }, { accessFlags := 25, nameIndex := 131, descriptorIndex := 25, attributes := #[] }, { accessFlags := 25, nameIndex := 137, descriptorIndex := 25, attributes := #[] }, { accessFlags := 25, nameIndex := 143, descriptorIndex := 25, attributes := #[] }, { accessFlags := 25, nameIndex := 53, descriptorIndex := 25, attributes := #[] }, { accessFlags := 25, nameIndex := 24, descriptorIndex := 25, attributes := #[] }, { accessFlags := 25, nameIndex := 162, descriptorIndex := 25, attributes := #[] }, { accessFlags := 25, nameIndex := 187, descriptorIndex := 25, attributes := #[] }, { accessFlags := 26, nameIndex := 48, descriptorIndex := 25, attributes := #[] }, { accessFlags := 25, nameIndex := 277, descriptorIndex := 25, attributes := #[] }, { accessFlags := 25, nameIndex := 280, descriptorIndex := 25, attributes := #[] }, { accessFlags := 25, nameIndex := 282, descriptorIndex := 25, attributes := #[] }, { accessFlags := 25, nameIndex := 284, descriptorIndex := 25, attributes := #[] }, { accessFlags := 25, nameIndex := 286, descriptorIndex := 25, attributes := #[] }, { accessFlags := 25, nameIndex := 288, descriptorIndex := 25, attributes := #[] }, { accessFlags := 25, nameIndex := 290, descriptorIndex := 25, attributes := #[] }, { accessFlags := 25, nameIndex := 292, descriptorIndex := 25, attributes := #[] }, { accessFlags := 26, nameIndex := 108, descriptorIndex := 109, attributes := #[] }, { accessFlags := 25, nameIndex := 294, descriptorIndex := 25, attributes := #[] }])
  fields := #[{ name := "U", type := (.object "jdk/internal/misc/Unsafe"), accessFlags := 24, slot := 0, constantValue := 0 }, { name := "BIG_ENDIAN", type := .boolean, accessFlags := 26, slot := 1, constantValue := 0 }, { name := "LOG2_ARRAY_BOOLEAN_INDEX_SCALE", type := .int, accessFlags := 25, slot := 2, constantValue := 0 }, { name := "LOG2_ARRAY_BYTE_INDEX_SCALE", type := .int, accessFlags := 25, slot := 3, constantValue := 0 }, { name := "LOG2_ARRAY_CHAR_INDEX_SCALE", type := .int, accessFlags := 25, slot := 4, constantValue := 0 }, { name := "LOG2_ARRAY_SHORT_INDEX_SCALE", type := .int, accessFlags := 25, slot := 5, constantValue := 0 }, { name := "LOG2_ARRAY_INT_INDEX_SCALE", type := .int, accessFlags := 25, slot := 6, constantValue := 0 }, { name := "LOG2_ARRAY_LONG_INDEX_SCALE", type := .int, accessFlags := 25, slot := 7, constantValue := 0 }, { name := "LOG2_ARRAY_FLOAT_INDEX_SCALE", type := .int, accessFlags := 25, slot := 8, constantValue := 0 }, { name := "LOG2_ARRAY_DOUBLE_INDEX_SCALE", type := .int, accessFlags := 25, slot := 9, constantValue := 0 }, { name := "LOG2_BYTE_BIT_SIZE", type := .int, accessFlags := 26, slot := 10, constantValue := 0 }, { name := "T_BOOLEAN", type := .int, accessFlags := 25, slot := 11, constantValue := 0 }, { name := "T_CHAR", type := .int, accessFlags := 25, slot := 12, constantValue := 0 }, { name := "T_FLOAT", type := .int, accessFlags := 25, slot := 13, constantValue := 0 }, { name := "T_DOUBLE", type := .int, accessFlags := 25, slot := 14, constantValue := 0 }, { name := "T_BYTE", type := .int, accessFlags := 25, slot := 15, constantValue := 0 }, { name := "T_SHORT", type := .int, accessFlags := 25, slot := 16, constantValue := 0 }, { name := "T_INT", type := .int, accessFlags := 25, slot := 17, constantValue := 0 }, { name := "T_LONG", type := .int, accessFlags := 25, slot := 18, constantValue := 0 }, { name := "JLA", type := (.object "jdk/internal/access/JavaLangAccess"), accessFlags := 26, slot := 19, constantValue := 0 }, { name := "SOFT_MAX_ARRAY_LENGTH", type := .int, accessFlags := 25, slot := 20, constantValue := 0 }]
  methods := #[k16m0]
  instanceTypes := #[]
  staticTypes := #[(.object "jdk/internal/misc/Unsafe"), .boolean, .int, .int, .int, .int, .int, .int, .int, .int, .int, .int, .int, .int, .int, .int, .int, .int, .int, (.object "jdk/internal/access/JavaLangAccess"), .int]
  resolved := Array.replicate 378 none
  statics := none }

def pool17 : Array CpInfo := pool [(1, u "java/lang/Cloneable"), (0, .class_ 1), (0, u "java/lang/Object"), (0, .class_ 3)] 3

/-- java/lang/Cloneable -/
def k17 : Class := { plain "java/lang/Cloneable" (some 0) with
  accessFlags := 1537
  interfaces := #[]
  cf := some (fileOf pool17 2 #[] #[] 1537 4 #[] #[])
  fields := #[]
  methods := #[]
  instanceTypes := #[]
  staticTypes := #[]
  resolved := Array.replicate 8 none
  statics := none }

/-- the primitive byte -/
def k18 : Class := { plain "byte" none with kind := .primitive 'B', accessFlags := 0x411 }
/-- [B -/
def k19 : Class := { plain "[B" (some 0) with kind := .array 18 .byte, interfaces := #[17, 2], accessFlags := 1041 }

/-- the primitive char -/
def k20 : Class := { plain "char" none with kind := .primitive 'C', accessFlags := 0x411 }
/-- [C -/
def k21 : Class := { plain "[C" (some 0) with kind := .array 20 .char, interfaces := #[17, 2], accessFlags := 1041 }

/-- the primitive int -/
def k22 : Class := { plain "int" none with kind := .primitive 'I', accessFlags := 0x411 }
/-- [I -/
def k23 : Class := { plain "[I" (some 0) with kind := .array 22 .int, interfaces := #[17, 2], accessFlags := 1041 }

/-- [Ljava/lang/Long; -/
def k24 : Class := { plain "[Ljava/lang/Long;" (some 0) with kind := .array 11 (.object "java/lang/Long"), interfaces := #[17, 2], accessFlags := 1041 }

def heap : Heap := #[{ cls := 7, slots := #[.long 0, .int 1, .null, .int 0, .null, .int 0, .int 0], vm := .statics 7 },
  { cls := 12, slots := #[.ref 3, .null, .int 0], vm := .statics 12 },
  { cls := 15, slots := #[.null, .null, .null], vm := .statics 15 },
  { cls := 24, slots := #[.ref 4, .ref 5, .ref 6, .ref 7, .ref 8, .ref 9, .ref 10, .ref 11, .ref 12, .ref 13, .ref 14, .ref 15, .ref 16, .ref 17, .ref 18, .ref 19, .ref 20, .ref 21, .ref 22, .ref 23, .ref 24, .ref 25, .ref 26, .ref 27, .ref 28, .ref 29, .ref 30, .ref 31, .ref 32, .ref 33, .ref 34, .ref 35, .ref 36, .ref 37, .ref 38, .ref 39, .ref 40, .ref 41, .ref 42, .ref 43, .ref 44, .ref 45, .ref 46, .ref 47, .ref 48, .ref 49, .ref 50, .ref 51, .ref 52, .ref 53, .ref 54, .ref 55, .ref 56, .ref 57, .ref 58, .ref 59, .ref 60, .ref 61, .ref 62, .ref 63, .ref 64, .ref 65, .ref 66, .ref 67, .ref 68, .ref 69, .ref 70, .ref 71, .ref 72, .ref 73, .ref 74, .ref 75, .ref 76, .ref 77, .ref 78, .ref 79, .ref 80, .ref 81, .ref 82, .ref 83, .ref 84, .ref 85, .ref 86, .ref 87, .ref 88, .ref 89, .ref 90, .ref 91, .ref 92, .ref 93, .ref 94, .ref 95, .ref 96, .ref 97, .ref 98, .ref 99, .ref 100, .ref 101, .ref 102, .ref 103, .ref 104, .ref 105, .ref 106, .ref 107, .ref 108, .ref 109, .ref 110, .ref 111, .ref 112, .ref 113, .ref 114, .ref 115, .ref 116, .ref 117, .ref 118, .ref 119, .ref 120, .ref 121, .ref 122, .ref 123, .ref 124, .ref 125, .ref 126, .ref 127, .ref 128, .ref 129, .ref 130, .ref 131, .ref 132, .ref 133, .ref 134, .ref 135, .ref 136, .ref 137, .ref 138, .ref 139, .ref 140, .ref 141, .ref 142, .ref 143, .ref 144, .ref 145, .ref 146, .ref 147, .ref 148, .ref 149, .ref 150, .ref 151, .ref 152, .ref 153, .ref 154, .ref 155, .ref 156, .ref 157, .ref 158, .ref 159, .ref 160, .ref 161, .ref 162, .ref 163, .ref 164, .ref 165, .ref 166, .ref 167, .ref 168, .ref 169, .ref 170, .ref 171, .ref 172, .ref 173, .ref 174, .ref 175, .ref 176, .ref 177, .ref 178, .ref 179, .ref 180, .ref 181, .ref 182, .ref 183, .ref 184, .ref 185, .ref 186, .ref 187, .ref 188, .ref 189, .ref 190, .ref 191, .ref 192, .ref 193, .ref 194, .ref 195, .ref 196, .ref 197, .ref 198, .ref 199, .ref 200, .ref 201, .ref 202, .ref 203, .ref 204, .ref 205, .ref 206, .ref 207, .ref 208, .ref 209, .ref 210, .ref 211, .ref 212, .ref 213, .ref 214, .ref 215, .ref 216, .ref 217, .ref 218, .ref 219, .ref 220, .ref 221, .ref 222, .ref 223, .ref 224, .ref 225, .ref 226, .ref 227, .ref 228, .ref 229, .ref 230, .ref 231, .ref 232, .ref 233, .ref 234, .ref 235, .ref 236, .ref 237, .ref 238, .ref 239, .ref 240, .ref 241, .ref 242, .ref 243, .ref 244, .ref 245, .ref 246, .ref 247, .ref 248, .ref 249, .ref 250, .ref 251, .ref 252, .ref 253, .ref 254, .ref 255, .ref 256, .ref 257, .ref 258, .ref 259], vm := .none },
  { cls := 11, slots := #[.long (-128)], vm := .none },
  { cls := 11, slots := #[.long (-127)], vm := .none },
  { cls := 11, slots := #[.long (-126)], vm := .none },
  { cls := 11, slots := #[.long (-125)], vm := .none },
  { cls := 11, slots := #[.long (-124)], vm := .none },
  { cls := 11, slots := #[.long (-123)], vm := .none },
  { cls := 11, slots := #[.long (-122)], vm := .none },
  { cls := 11, slots := #[.long (-121)], vm := .none },
  { cls := 11, slots := #[.long (-120)], vm := .none },
  { cls := 11, slots := #[.long (-119)], vm := .none },
  { cls := 11, slots := #[.long (-118)], vm := .none },
  { cls := 11, slots := #[.long (-117)], vm := .none },
  { cls := 11, slots := #[.long (-116)], vm := .none },
  { cls := 11, slots := #[.long (-115)], vm := .none },
  { cls := 11, slots := #[.long (-114)], vm := .none },
  { cls := 11, slots := #[.long (-113)], vm := .none },
  { cls := 11, slots := #[.long (-112)], vm := .none },
  { cls := 11, slots := #[.long (-111)], vm := .none },
  { cls := 11, slots := #[.long (-110)], vm := .none },
  { cls := 11, slots := #[.long (-109)], vm := .none },
  { cls := 11, slots := #[.long (-108)], vm := .none },
  { cls := 11, slots := #[.long (-107)], vm := .none },
  { cls := 11, slots := #[.long (-106)], vm := .none },
  { cls := 11, slots := #[.long (-105)], vm := .none },
  { cls := 11, slots := #[.long (-104)], vm := .none },
  { cls := 11, slots := #[.long (-103)], vm := .none },
  { cls := 11, slots := #[.long (-102)], vm := .none },
  { cls := 11, slots := #[.long (-101)], vm := .none },
  { cls := 11, slots := #[.long (-100)], vm := .none },
  { cls := 11, slots := #[.long (-99)], vm := .none },
  { cls := 11, slots := #[.long (-98)], vm := .none },
  { cls := 11, slots := #[.long (-97)], vm := .none },
  { cls := 11, slots := #[.long (-96)], vm := .none },
  { cls := 11, slots := #[.long (-95)], vm := .none },
  { cls := 11, slots := #[.long (-94)], vm := .none },
  { cls := 11, slots := #[.long (-93)], vm := .none },
  { cls := 11, slots := #[.long (-92)], vm := .none },
  { cls := 11, slots := #[.long (-91)], vm := .none },
  { cls := 11, slots := #[.long (-90)], vm := .none },
  { cls := 11, slots := #[.long (-89)], vm := .none },
  { cls := 11, slots := #[.long (-88)], vm := .none },
  { cls := 11, slots := #[.long (-87)], vm := .none },
  { cls := 11, slots := #[.long (-86)], vm := .none },
  { cls := 11, slots := #[.long (-85)], vm := .none },
  { cls := 11, slots := #[.long (-84)], vm := .none },
  { cls := 11, slots := #[.long (-83)], vm := .none },
  { cls := 11, slots := #[.long (-82)], vm := .none },
  { cls := 11, slots := #[.long (-81)], vm := .none },
  { cls := 11, slots := #[.long (-80)], vm := .none },
  { cls := 11, slots := #[.long (-79)], vm := .none },
  { cls := 11, slots := #[.long (-78)], vm := .none },
  { cls := 11, slots := #[.long (-77)], vm := .none },
  { cls := 11, slots := #[.long (-76)], vm := .none },
  { cls := 11, slots := #[.long (-75)], vm := .none },
  { cls := 11, slots := #[.long (-74)], vm := .none },
  { cls := 11, slots := #[.long (-73)], vm := .none },
  { cls := 11, slots := #[.long (-72)], vm := .none },
  { cls := 11, slots := #[.long (-71)], vm := .none },
  { cls := 11, slots := #[.long (-70)], vm := .none },
  { cls := 11, slots := #[.long (-69)], vm := .none },
  { cls := 11, slots := #[.long (-68)], vm := .none },
  { cls := 11, slots := #[.long (-67)], vm := .none },
  { cls := 11, slots := #[.long (-66)], vm := .none },
  { cls := 11, slots := #[.long (-65)], vm := .none },
  { cls := 11, slots := #[.long (-64)], vm := .none },
  { cls := 11, slots := #[.long (-63)], vm := .none },
  { cls := 11, slots := #[.long (-62)], vm := .none },
  { cls := 11, slots := #[.long (-61)], vm := .none },
  { cls := 11, slots := #[.long (-60)], vm := .none },
  { cls := 11, slots := #[.long (-59)], vm := .none },
  { cls := 11, slots := #[.long (-58)], vm := .none },
  { cls := 11, slots := #[.long (-57)], vm := .none },
  { cls := 11, slots := #[.long (-56)], vm := .none },
  { cls := 11, slots := #[.long (-55)], vm := .none },
  { cls := 11, slots := #[.long (-54)], vm := .none },
  { cls := 11, slots := #[.long (-53)], vm := .none },
  { cls := 11, slots := #[.long (-52)], vm := .none },
  { cls := 11, slots := #[.long (-51)], vm := .none },
  { cls := 11, slots := #[.long (-50)], vm := .none },
  { cls := 11, slots := #[.long (-49)], vm := .none },
  { cls := 11, slots := #[.long (-48)], vm := .none },
  { cls := 11, slots := #[.long (-47)], vm := .none },
  { cls := 11, slots := #[.long (-46)], vm := .none },
  { cls := 11, slots := #[.long (-45)], vm := .none },
  { cls := 11, slots := #[.long (-44)], vm := .none },
  { cls := 11, slots := #[.long (-43)], vm := .none },
  { cls := 11, slots := #[.long (-42)], vm := .none },
  { cls := 11, slots := #[.long (-41)], vm := .none },
  { cls := 11, slots := #[.long (-40)], vm := .none },
  { cls := 11, slots := #[.long (-39)], vm := .none },
  { cls := 11, slots := #[.long (-38)], vm := .none },
  { cls := 11, slots := #[.long (-37)], vm := .none },
  { cls := 11, slots := #[.long (-36)], vm := .none },
  { cls := 11, slots := #[.long (-35)], vm := .none },
  { cls := 11, slots := #[.long (-34)], vm := .none },
  { cls := 11, slots := #[.long (-33)], vm := .none },
  { cls := 11, slots := #[.long (-32)], vm := .none },
  { cls := 11, slots := #[.long (-31)], vm := .none },
  { cls := 11, slots := #[.long (-30)], vm := .none },
  { cls := 11, slots := #[.long (-29)], vm := .none },
  { cls := 11, slots := #[.long (-28)], vm := .none },
  { cls := 11, slots := #[.long (-27)], vm := .none },
  { cls := 11, slots := #[.long (-26)], vm := .none },
  { cls := 11, slots := #[.long (-25)], vm := .none },
  { cls := 11, slots := #[.long (-24)], vm := .none },
  { cls := 11, slots := #[.long (-23)], vm := .none },
  { cls := 11, slots := #[.long (-22)], vm := .none },
  { cls := 11, slots := #[.long (-21)], vm := .none },
  { cls := 11, slots := #[.long (-20)], vm := .none },
  { cls := 11, slots := #[.long (-19)], vm := .none },
  { cls := 11, slots := #[.long (-18)], vm := .none },
  { cls := 11, slots := #[.long (-17)], vm := .none },
  { cls := 11, slots := #[.long (-16)], vm := .none },
  { cls := 11, slots := #[.long (-15)], vm := .none },
  { cls := 11, slots := #[.long (-14)], vm := .none },
  { cls := 11, slots := #[.long (-13)], vm := .none },
  { cls := 11, slots := #[.long (-12)], vm := .none },
  { cls := 11, slots := #[.long (-11)], vm := .none },
  { cls := 11, slots := #[.long (-10)], vm := .none },
  { cls := 11, slots := #[.long (-9)], vm := .none },
  { cls := 11, slots := #[.long (-8)], vm := .none },
  { cls := 11, slots := #[.long (-7)], vm := .none },
  { cls := 11, slots := #[.long (-6)], vm := .none },
  { cls := 11, slots := #[.long (-5)], vm := .none },
  { cls := 11, slots := #[.long (-4)], vm := .none },
  { cls := 11, slots := #[.long (-3)], vm := .none },
  { cls := 11, slots := #[.long (-2)], vm := .none },
  { cls := 11, slots := #[.long (-1)], vm := .none },
  { cls := 11, slots := #[.long (0)], vm := .none },
  { cls := 11, slots := #[.long (1)], vm := .none },
  { cls := 11, slots := #[.long (2)], vm := .none },
  { cls := 11, slots := #[.long (3)], vm := .none },
  { cls := 11, slots := #[.long (4)], vm := .none },
  { cls := 11, slots := #[.long (5)], vm := .none },
  { cls := 11, slots := #[.long (6)], vm := .none },
  { cls := 11, slots := #[.long (7)], vm := .none },
  { cls := 11, slots := #[.long (8)], vm := .none },
  { cls := 11, slots := #[.long (9)], vm := .none },
  { cls := 11, slots := #[.long (10)], vm := .none },
  { cls := 11, slots := #[.long (11)], vm := .none },
  { cls := 11, slots := #[.long (12)], vm := .none },
  { cls := 11, slots := #[.long (13)], vm := .none },
  { cls := 11, slots := #[.long (14)], vm := .none },
  { cls := 11, slots := #[.long (15)], vm := .none },
  { cls := 11, slots := #[.long (16)], vm := .none },
  { cls := 11, slots := #[.long (17)], vm := .none },
  { cls := 11, slots := #[.long (18)], vm := .none },
  { cls := 11, slots := #[.long (19)], vm := .none },
  { cls := 11, slots := #[.long (20)], vm := .none },
  { cls := 11, slots := #[.long (21)], vm := .none },
  { cls := 11, slots := #[.long (22)], vm := .none },
  { cls := 11, slots := #[.long (23)], vm := .none },
  { cls := 11, slots := #[.long (24)], vm := .none },
  { cls := 11, slots := #[.long (25)], vm := .none },
  { cls := 11, slots := #[.long (26)], vm := .none },
  { cls := 11, slots := #[.long (27)], vm := .none },
  { cls := 11, slots := #[.long (28)], vm := .none },
  { cls := 11, slots := #[.long (29)], vm := .none },
  { cls := 11, slots := #[.long (30)], vm := .none },
  { cls := 11, slots := #[.long (31)], vm := .none },
  { cls := 11, slots := #[.long (32)], vm := .none },
  { cls := 11, slots := #[.long (33)], vm := .none },
  { cls := 11, slots := #[.long (34)], vm := .none },
  { cls := 11, slots := #[.long (35)], vm := .none },
  { cls := 11, slots := #[.long (36)], vm := .none },
  { cls := 11, slots := #[.long (37)], vm := .none },
  { cls := 11, slots := #[.long (38)], vm := .none },
  { cls := 11, slots := #[.long (39)], vm := .none },
  { cls := 11, slots := #[.long (40)], vm := .none },
  { cls := 11, slots := #[.long (41)], vm := .none },
  { cls := 11, slots := #[.long (42)], vm := .none },
  { cls := 11, slots := #[.long (43)], vm := .none },
  { cls := 11, slots := #[.long (44)], vm := .none },
  { cls := 11, slots := #[.long (45)], vm := .none },
  { cls := 11, slots := #[.long (46)], vm := .none },
  { cls := 11, slots := #[.long (47)], vm := .none },
  { cls := 11, slots := #[.long (48)], vm := .none },
  { cls := 11, slots := #[.long (49)], vm := .none },
  { cls := 11, slots := #[.long (50)], vm := .none },
  { cls := 11, slots := #[.long (51)], vm := .none },
  { cls := 11, slots := #[.long (52)], vm := .none },
  { cls := 11, slots := #[.long (53)], vm := .none },
  { cls := 11, slots := #[.long (54)], vm := .none },
  { cls := 11, slots := #[.long (55)], vm := .none },
  { cls := 11, slots := #[.long (56)], vm := .none },
  { cls := 11, slots := #[.long (57)], vm := .none },
  { cls := 11, slots := #[.long (58)], vm := .none },
  { cls := 11, slots := #[.long (59)], vm := .none },
  { cls := 11, slots := #[.long (60)], vm := .none },
  { cls := 11, slots := #[.long (61)], vm := .none },
  { cls := 11, slots := #[.long (62)], vm := .none },
  { cls := 11, slots := #[.long (63)], vm := .none },
  { cls := 11, slots := #[.long (64)], vm := .none },
  { cls := 11, slots := #[.long (65)], vm := .none },
  { cls := 11, slots := #[.long (66)], vm := .none },
  { cls := 11, slots := #[.long (67)], vm := .none },
  { cls := 11, slots := #[.long (68)], vm := .none },
  { cls := 11, slots := #[.long (69)], vm := .none },
  { cls := 11, slots := #[.long (70)], vm := .none },
  { cls := 11, slots := #[.long (71)], vm := .none },
  { cls := 11, slots := #[.long (72)], vm := .none },
  { cls := 11, slots := #[.long (73)], vm := .none },
  { cls := 11, slots := #[.long (74)], vm := .none },
  { cls := 11, slots := #[.long (75)], vm := .none },
  { cls := 11, slots := #[.long (76)], vm := .none },
  { cls := 11, slots := #[.long (77)], vm := .none },
  { cls := 11, slots := #[.long (78)], vm := .none },
  { cls := 11, slots := #[.long (79)], vm := .none },
  { cls := 11, slots := #[.long (80)], vm := .none },
  { cls := 11, slots := #[.long (81)], vm := .none },
  { cls := 11, slots := #[.long (82)], vm := .none },
  { cls := 11, slots := #[.long (83)], vm := .none },
  { cls := 11, slots := #[.long (84)], vm := .none },
  { cls := 11, slots := #[.long (85)], vm := .none },
  { cls := 11, slots := #[.long (86)], vm := .none },
  { cls := 11, slots := #[.long (87)], vm := .none },
  { cls := 11, slots := #[.long (88)], vm := .none },
  { cls := 11, slots := #[.long (89)], vm := .none },
  { cls := 11, slots := #[.long (90)], vm := .none },
  { cls := 11, slots := #[.long (91)], vm := .none },
  { cls := 11, slots := #[.long (92)], vm := .none },
  { cls := 11, slots := #[.long (93)], vm := .none },
  { cls := 11, slots := #[.long (94)], vm := .none },
  { cls := 11, slots := #[.long (95)], vm := .none },
  { cls := 11, slots := #[.long (96)], vm := .none },
  { cls := 11, slots := #[.long (97)], vm := .none },
  { cls := 11, slots := #[.long (98)], vm := .none },
  { cls := 11, slots := #[.long (99)], vm := .none },
  { cls := 11, slots := #[.long (100)], vm := .none },
  { cls := 11, slots := #[.long (101)], vm := .none },
  { cls := 11, slots := #[.long (102)], vm := .none },
  { cls := 11, slots := #[.long (103)], vm := .none },
  { cls := 11, slots := #[.long (104)], vm := .none },
  { cls := 11, slots := #[.long (105)], vm := .none },
  { cls := 11, slots := #[.long (106)], vm := .none },
  { cls := 11, slots := #[.long (107)], vm := .none },
  { cls := 11, slots := #[.long (108)], vm := .none },
  { cls := 11, slots := #[.long (109)], vm := .none },
  { cls := 11, slots := #[.long (110)], vm := .none },
  { cls := 11, slots := #[.long (111)], vm := .none },
  { cls := 11, slots := #[.long (112)], vm := .none },
  { cls := 11, slots := #[.long (113)], vm := .none },
  { cls := 11, slots := #[.long (114)], vm := .none },
  { cls := 11, slots := #[.long (115)], vm := .none },
  { cls := 11, slots := #[.long (116)], vm := .none },
  { cls := 11, slots := #[.long (117)], vm := .none },
  { cls := 11, slots := #[.long (118)], vm := .none },
  { cls := 11, slots := #[.long (119)], vm := .none },
  { cls := 11, slots := #[.long (120)], vm := .none },
  { cls := 11, slots := #[.long (121)], vm := .none },
  { cls := 11, slots := #[.long (122)], vm := .none },
  { cls := 11, slots := #[.long (123)], vm := .none },
  { cls := 11, slots := #[.long (124)], vm := .none },
  { cls := 11, slots := #[.long (125)], vm := .none },
  { cls := 11, slots := #[.long (126)], vm := .none },
  { cls := 11, slots := #[.long (127)], vm := .none }]
def classes : Array Class := #[k0, k1, k2, k3, k4, k5, k6, k7, k8, k9, k10, k11, k12, k13, k14, k15, k16, k17, k18, k19, k20, k21, k22, k23, k24]
def interned : List (Array UInt16 × Addr) := []
def slotsUsed : Nat := 525
def theMethod : MethodId := ⟨1, 1⟩
def args0 : Array Value := #[.int 3, .int 4, .int 5, .long 7, .long 8, .long 9]
def aboutOver (below : List Frame) : State where
  vm := { classes := classes, interned := interned.toArray }
  heap := heap
  slotsUsed := slotsUsed
  threads := #[{ frames := .invoking theMethod args0 :: below }]
def below0 : List Frame := [.native { method := ⟨0, 0⟩, args := #[] }]
def about1 : State := aboutOver below0
def p0 : Program := .bare "" "" ""
def e0 : Env := launch0.env 0 0 0
theorem w_frames : about1.frames = Frame.invoking theMethod args0 :: below0 := rfl
set_option maxRecDepth 65536 in
theorem w_args : argsFit about1.vm theMethod args0 = true := by decide +kernel
set_option maxRecDepth 65536 in
theorem w_heap : heapFits about1 = true := by decide +kernel
set_option maxRecDepth 65536 in
theorem w_runnable : about1.curStatus? = some .runnable := by decide +kernel
set_option maxRecDepth 65536 in
theorem w_alone : about1.alone = true := by decide +kernel
set_option maxRecDepth 65536 in
theorem w_named : about1.methodNamed? x = some theMethod := by decide +kernel
set_option maxRecDepth 65536 in
theorem w_hears : about1.hears theMethod below0 = true := by decide +kernel
set_option maxRecDepth 65536 in
theorem w_ripe : about1.ripe theMethod args0 below0 = true := by decide +kernel
theorem w_running : about1.status = .running := rfl
set_option maxRecDepth 65536 in
theorem w_room : about1.hasRoom e0.platform room_1 = true :=
  launch0.hasRoom_least _ room_1 (by decide +kernel) (by decide +kernel) (by decide +kernel) (by decide +kernel) (by decide +kernel) (by decide +kernel)
theorem allAtoms_all (ts : List Jvm.Cond) (a : Array Jvm.Value) (st : Jvm.State) : (allAtoms ts).before a st = ts.all (fun c => c.before a st) := by
  induction ts with
  | nil => rfl
  | cons c t ih =>
    show (Jvm.Cond.and c (allAtoms t)).before a st = _
    rw [Jvm.Cond.before_and, ih, List.all_cons]
def words1 : List Jvm.Cond := Jvm.Cond.code x code maxLocals ret :: tables_1
/-- a 'code' word, met by the world's own term for the bytes: nothing is compared byte by byte -/
theorem code_word {y : MethodName} {bytes : ByteArray} {mx : Nat} {rt : Option FieldType} {a : Array Value} {s : State} {m : MethodId} {meth : Method} {c : Code} (h1 : s.methodNamed? y = some m) (h2 : s.vm.method? m = some meth) (h3 : meth.code = some c) (h4 : c.code = bytes)
    (h5 : (c.maxLocals == mx && c.exceptionTable.isEmpty && decide (c.maxStack ≤ mostOperands) && decide (meth.sig.returnType = rt) && !meth.locks && decide (parseMethodDescriptor y.desc = some meth.sig)) = true) : (Jvm.Cond.code y bytes mx rt).before a s = true := by
  simp only [Bool.and_eq_true, beq_iff_eq, Bool.not_eq_true', decide_eq_true_eq] at h5
  obtain ⟨⟨⟨⟨⟨g1, g2⟩, g3⟩, g4⟩, g5⟩, g6⟩ := h5
  simp [Cond.before, Cond.holds, Cond.value, h1, h2, h3, h4, g1, g2, g3, g4, g5, g6]
def isCode : Jvm.Cond → Bool
  | .code _ _ _ _ => true
  | _ => false
theorem all_split {L : List Jvm.Cond} {P : Jvm.Cond → Bool} (h1 : L.all (fun c => isCode c || P c) = true) (h2 : ∀ c ∈ L.filter isCode, P c = true) : L.all P = true := by
  refine List.all_eq_true.mpr fun c hc => ?_
  have h := List.all_eq_true.mp h1 c hc
  rcases Bool.eq_false_or_eq_true (isCode c) with hi | hi
  · exact h2 c (List.mem_filter.mpr ⟨hc, hi⟩)
  · simpa [hi] using h
set_option maxRecDepth 65536 in
theorem w_c0 : (Jvm.Cond.code x code maxLocals ret).before args0 about1 = true := code_word (m := ⟨1, 1⟩) (meth := k1m1) (c := k1c1) (by decide +kernel) rfl rfl rfl (by decide +kernel)
set_option maxRecDepth 65536 in
theorem w_c1 : (Jvm.Cond.code ({ cls := "java/lang/String", name := "<init>", desc := "([C)V" } : Jvm.MethodName) jdk_42_method_3_code (2 : Nat) (Option.none : Option Jvm.ClassFile.FieldType)).before args0 about1 = true := code_word (m := ⟨7, 1⟩) (meth := k7m1) (c := k7c1) (by decide +kernel) rfl rfl rfl (by decide +kernel)
set_option maxRecDepth 65536 in
theorem w_c2 : (Jvm.Cond.code ({ cls := "java/lang/String", name := "<init>", desc := "([CIILjava/lang/Void;)V" } : Jvm.MethodName) jdk_42_method_149_code (6 : Nat) (Option.none : Option Jvm.ClassFile.FieldType)).before args0 about1 = true := code_word (m := ⟨7, 2⟩) (meth := k7m2) (c := k7c2) (by decide +kernel) rfl rfl rfl (by decide +kernel)
set_option maxRecDepth 65536 in
theorem w_c3 : (Jvm.Cond.code ({ cls := "java/lang/Object", name := "<init>", desc := "()V" } : Jvm.MethodName) object_method_1_code (1 : Nat) (Option.none : Option Jvm.ClassFile.FieldType)).before args0 about1 = true := code_word (m := ⟨0, 0⟩) (meth := k0m0) (c := k0c0) (by decide +kernel) rfl rfl rfl (by decide +kernel)
set_option maxRecDepth 65536 in
theorem w_c4 : (Jvm.Cond.code ({ cls := "com/example/countersign/countersign/server/Exchange", name := "<init>", desc := "(Ljava/lang/String;Ljava/lang/Long;Ljava/lang/Long;Ljava/lang/Long;Ljava/lang/String;)V" } : Jvm.MethodName) prog_24_method_1_code (6 : Nat) (Option.none : Option Jvm.ClassFile.FieldType)).before args0 about1 = true := code_word (m := ⟨9, 0⟩) (meth := k9m0) (c := k9c0) (by decide +kernel) rfl rfl rfl (by decide +kernel)
set_option maxRecDepth 65536 in
theorem w_c5 : (Jvm.Cond.code ({ cls := "java/lang/Record", name := "<init>", desc := "()V" } : Jvm.MethodName) jdk_30_method_1_code (1 : Nat) (Option.none : Option Jvm.ClassFile.FieldType)).before args0 about1 = true := code_word (m := ⟨8, 0⟩) (meth := k8m0) (c := k8c0) (by decide +kernel) rfl rfl rfl (by decide +kernel)
set_option maxRecDepth 65536 in
theorem w_c6 : (Jvm.Cond.code ({ cls := "com/example/countersign/countersign/server/Exchange", name := "succeeded", desc := "()Z" } : Jvm.MethodName) prog_24_method_5_code (1 : Nat) (Option.some Jvm.ClassFile.FieldType.boolean)).before args0 about1 = true := code_word (m := ⟨9, 4⟩) (meth := k9m4) (c := k9c4) (by decide +kernel) rfl rfl rfl (by decide +kernel)
set_option maxRecDepth 65536 in
theorem w_c7 : (Jvm.Cond.code ({ cls := "com/example/countersign/countersign/server/Exchange", name := "failed", desc := "(Ljava/lang/String;)Lcom/example/countersign/countersign/server/Exchange;" } : Jvm.MethodName) prog_24_method_4_code (1 : Nat) (Option.some (Jvm.ClassFile.FieldType.object "com/example/countersign/countersign/server/Exchange"))).before args0 about1 = true := code_word (m := ⟨9, 3⟩) (meth := k9m3) (c := k9c3) (by decide +kernel) rfl rfl rfl (by decide +kernel)
set_option maxRecDepth 65536 in
theorem w_c8 : (Jvm.Cond.code ({ cls := "com/example/countersign/countersign/server/Exchange", name := "lasting", desc := "(Ljava/lang/String;J)Lcom/example/countersign/countersign/server/Exchange;" } : Jvm.MethodName) prog_24_method_2_code (3 : Nat) (Option.some (Jvm.ClassFile.FieldType.object "com/example/countersign/countersign/server/Exchange"))).before args0 about1 = true := code_word (m := ⟨9, 1⟩) (meth := k9m1) (c := k9c1) (by decide +kernel) rfl rfl rfl (by decide +kernel)
set_option maxRecDepth 65536 in
theorem w_c9 : (Jvm.Cond.code ({ cls := "java/lang/Long", name := "valueOf", desc := "(J)Ljava/lang/Long;" } : Jvm.MethodName) jdk_35_method_24_code (3 : Nat) (Option.some (Jvm.ClassFile.FieldType.object "java/lang/Long"))).before args0 about1 = true := code_word (m := ⟨11, 0⟩) (meth := k11m0) (c := k11c0) (by decide +kernel) rfl rfl rfl (by decide +kernel)
set_option maxRecDepth 65536 in
theorem w_c10 : (Jvm.Cond.code ({ cls := "java/lang/Long", name := "<init>", desc := "(J)V" } : Jvm.MethodName) jdk_35_method_26_code (3 : Nat) (Option.none : Option Jvm.ClassFile.FieldType)).before args0 about1 = true := code_word (m := ⟨11, 1⟩) (meth := k11m1) (c := k11c1) (by decide +kernel) rfl rfl rfl (by decide +kernel)
set_option maxRecDepth 65536 in
theorem w_c11 : (Jvm.Cond.code ({ cls := "java/lang/Number", name := "<init>", desc := "()V" } : Jvm.MethodName) jdk_18_method_1_code (1 : Nat) (Option.none : Option Jvm.ClassFile.FieldType)).before args0 about1 = true := code_word (m := ⟨10, 0⟩) (meth := k10m0) (c := k10c0) (by decide +kernel) rfl rfl rfl (by decide +kernel)
set_option maxRecDepth 65536 in
theorem w_c12 : (Jvm.Cond.code ({ cls := "com/example/countersign/countersign/server/Exchange", name := "expiring", desc := "(Ljava/lang/String;JJJ)Lcom/example/countersign/countersign/server/Exchange;" } : Jvm.MethodName) prog_24_method_3_code (7 : Nat) (Option.some (Jvm.ClassFile.FieldType.object "com/example/countersign/countersign/server/Exchange"))).before args0 about1 = true := code_word (m := ⟨9, 2⟩) (meth := k9m2) (c := k9c2) (by decide +kernel) rfl rfl rfl (by decide +kernel)
set_option maxRecDepth 65536 in
theorem w_c13 : (Jvm.Cond.code ({ cls := "java/lang/StringUTF16", name := "compress", desc := "([CII)[B" } : Jvm.MethodName) jdk_52_method_16_code (6 : Nat) (Option.some (Jvm.ClassFile.FieldType.array Jvm.ClassFile.FieldType.byte))).before args0 about1 = true := code_word (m := ⟨13, 2⟩) (meth := k13m2) (c := k13c2) (by decide +kernel) rfl rfl rfl (by decide +kernel)
set_option maxRecDepth 65536 in
theorem w_c14 : (Jvm.Cond.code ({ cls := "java/lang/StringUTF16", name := "compress", desc := "([CI[BII)I" } : Jvm.MethodName) jdk_52_method_21_code (7 : Nat) (Option.some Jvm.ClassFile.FieldType.int)).before args0 about1 = true := code_word (m := ⟨13, 3⟩) (meth := k13m3) (c := k13c3) (by decide +kernel) rfl rfl rfl (by decide +kernel)
set_option maxRecDepth 65536 in
theorem w_c15 : (Jvm.Cond.code ({ cls := "java/lang/StringUTF16", name := "coderFromArrayLen", desc := "([BI)B" } : Jvm.MethodName) jdk_52_method_15_code (2 : Nat) (Option.some Jvm.ClassFile.FieldType.byte)).before args0 about1 = true := code_word (m := ⟨13, 1⟩) (meth := k13m1) (c := k13c1) (by decide +kernel) rfl rfl rfl (by decide +kernel)
def codes1 : List Jvm.Cond := [Jvm.Cond.code x code maxLocals ret, Jvm.Cond.code ({ cls := "java/lang/String", name := "<init>", desc := "([C)V" } : Jvm.MethodName) jdk_42_method_3_code (2 : Nat) (Option.none : Option Jvm.ClassFile.FieldType), Jvm.Cond.code ({ cls := "java/lang/String", name := "<init>", desc := "([CIILjava/lang/Void;)V" } : Jvm.MethodName) jdk_42_method_149_code (6 : Nat) (Option.none : Option Jvm.ClassFile.FieldType), Jvm.Cond.code ({ cls := "java/lang/Object", name := "<init>", desc := "()V" } : Jvm.MethodName) object_method_1_code (1 : Nat) (Option.none : Option Jvm.ClassFile.FieldType), Jvm.Cond.code ({ cls := "com/example/countersign/countersign/server/Exchange", name := "<init>", desc := "(Ljava/lang/String;Ljava/lang/Long;Ljava/lang/Long;Ljava/lang/Long;Ljava/lang/String;)V" } : Jvm.MethodName) prog_24_method_1_code (6 : Nat) (Option.none : Option Jvm.ClassFile.FieldType), Jvm.Cond.code ({ cls := "java/lang/Record", name := "<init>", desc := "()V" } : Jvm.MethodName) jdk_30_method_1_code (1 : Nat) (Option.none : Option Jvm.ClassFile.FieldType), Jvm.Cond.code ({ cls := "com/example/countersign/countersign/server/Exchange", name := "succeeded", desc := "()Z" } : Jvm.MethodName) prog_24_method_5_code (1 : Nat) (Option.some Jvm.ClassFile.FieldType.boolean), Jvm.Cond.code ({ cls := "com/example/countersign/countersign/server/Exchange", name := "failed", desc := "(Ljava/lang/String;)Lcom/example/countersign/countersign/server/Exchange;" } : Jvm.MethodName) prog_24_method_4_code (1 : Nat) (Option.some (Jvm.ClassFile.FieldType.object "com/example/countersign/countersign/server/Exchange")), Jvm.Cond.code ({ cls := "com/example/countersign/countersign/server/Exchange", name := "lasting", desc := "(Ljava/lang/String;J)Lcom/example/countersign/countersign/server/Exchange;" } : Jvm.MethodName) prog_24_method_2_code (3 : Nat) (Option.some (Jvm.ClassFile.FieldType.object "com/example/countersign/countersign/server/Exchange")), Jvm.Cond.code ({ cls := "java/lang/Long", name := "valueOf", desc := "(J)Ljava/lang/Long;" } : Jvm.MethodName) jdk_35_method_24_code (3 : Nat) (Option.some (Jvm.ClassFile.FieldType.object "java/lang/Long")), Jvm.Cond.code ({ cls := "java/lang/Long", name := "<init>", desc := "(J)V" } : Jvm.MethodName) jdk_35_method_26_code (3 : Nat) (Option.none : Option Jvm.ClassFile.FieldType), Jvm.Cond.code ({ cls := "java/lang/Number", name := "<init>", desc := "()V" } : Jvm.MethodName) jdk_18_method_1_code (1 : Nat) (Option.none : Option Jvm.ClassFile.FieldType), Jvm.Cond.code ({ cls := "com/example/countersign/countersign/server/Exchange", name := "expiring", desc := "(Ljava/lang/String;JJJ)Lcom/example/countersign/countersign/server/Exchange;" } : Jvm.MethodName) prog_24_method_3_code (7 : Nat) (Option.some (Jvm.ClassFile.FieldType.object "com/example/countersign/countersign/server/Exchange")), Jvm.Cond.code ({ cls := "java/lang/StringUTF16", name := "compress", desc := "([CII)[B" } : Jvm.MethodName) jdk_52_method_16_code (6 : Nat) (Option.some (Jvm.ClassFile.FieldType.array Jvm.ClassFile.FieldType.byte)), Jvm.Cond.code ({ cls := "java/lang/StringUTF16", name := "compress", desc := "([CI[BII)I" } : Jvm.MethodName) jdk_52_method_21_code (7 : Nat) (Option.some Jvm.ClassFile.FieldType.int), Jvm.Cond.code ({ cls := "java/lang/StringUTF16", name := "coderFromArrayLen", desc := "([BI)B" } : Jvm.MethodName) jdk_52_method_15_code (2 : Nat) (Option.some Jvm.ClassFile.FieldType.byte)]
set_option maxRecDepth 65536 in
theorem codes_eq : words1.filter isCode = codes1 := rfl
theorem w_codes : ∀ c ∈ words1.filter isCode, c.before args0 about1 = true := by
  rw [codes_eq]
  intro c hc
  simp only [codes1, List.mem_cons, List.not_mem_nil, or_false] at hc
  rcases hc with rfl | rfl | rfl | rfl | rfl | rfl | rfl | rfl | rfl | rfl | rfl | rfl | rfl | rfl | rfl | rfl
  · exact w_c0
  · exact w_c1
  · exact w_c2
  · exact w_c3
  · exact w_c4
  · exact w_c5
  · exact w_c6
  · exact w_c7
  · exact w_c8
  · exact w_c9
  · exact w_c10
  · exact w_c11
  · exact w_c12
  · exact w_c13
  · exact w_c14
  · exact w_c15
set_option maxRecDepth 65536 in
theorem w_t1 : (words1.take 24).all (fun c => isCode c || c.before args0 about1) = true := by decide +kernel
set_option maxRecDepth 65536 in
theorem w_t2 : ((words1.drop 24).take 24).all (fun c => isCode c || c.before args0 about1) = true := by decide +kernel
set_option maxRecDepth 65536 in
theorem w_t3 : (((words1.drop 24).drop 24).take 24).all (fun c => isCode c || c.before args0 about1) = true := by decide +kernel
set_option maxRecDepth 65536 in
theorem w_t4 : ((((words1.drop 24).drop 24).drop 24).take 24).all (fun c => isCode c || c.before args0 about1) = true := by decide +kernel
set_option maxRecDepth 65536 in
theorem w_t5 : ((((words1.drop 24).drop 24).drop 24).drop 24).all (fun c => isCode c || c.before args0 about1) = true := by decide +kernel
theorem w_tables : (allAtoms (Jvm.Cond.code x code maxLocals ret :: tables_1)).before args0 about1 = true := by
  rw [allAtoms_all]
  show words1.all (fun c => c.before args0 about1) = true
  refine all_split ?_ w_codes
  rw [← List.take_append_drop 24 words1, List.all_append, w_t1, ← List.take_append_drop 24 (words1.drop 24), List.all_append, w_t2, ← List.take_append_drop 24 ((words1.drop 24).drop 24), List.all_append, w_t3, ← List.take_append_drop 24 (((words1.drop 24).drop 24).drop 24), List.all_append, w_t4, w_t5]
  rfl
set_option maxRecDepth 65536 in
theorem w_rest : rest_1_c.before args0 about1 = true := by decide +kernel
set_option maxRecDepth 65536 in
theorem w_case : (Jvm.Cond.and given_1 narrow_1).before args0 about1 = true := by decide +kernel
set_option maxRecDepth 65536 in
theorem w_consts : constsHeld consts_1 about1 := Jvm.Lit.constsHeldB_iff.mp (by decide +kernel)
theorem w_applies : (headSpec (Jvm.Cond.code x code maxLocals ret :: tables_1) room_1).applies x e0.platform about1 = true :=
  (Spec.applies_iff w_frames).mpr ⟨w_running, w_runnable, w_alone, w_named, w_hears, w_ripe, w_room, w_tables⟩
theorem atStart : AtStart classFile x code maxLocals ret World_1 tables_1 room_1 Calls_1 rest_1 Pre_1 launch0 p0 e0 about1 theMethod args0 below0 :=
  ⟨lists_1, trivial, launch0.admits_env _ _ _, launch0.least_env, fairChoices_fair.cas, fairChoices_fair.clock, w_frames, w_args, w_heap, w_applies, ⟨w_consts, trivial⟩, w_rest, w_case⟩
end start1
theorem witness_1 : WitnessClaimed_1 := ⟨start1.p0, start1.e0, start1.about1, start1.theMethod, start1.args0, start1.below0, start1.atStart⟩
end Jvm.Pilot.@@N@@
