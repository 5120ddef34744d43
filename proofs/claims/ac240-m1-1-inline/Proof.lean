import JvmDerived
import JvmDerived.Pilot.@@N@@Statement
import JvmDerived.Pilot.@@N@@Code
set_option linter.unusedVariables false
set_option linter.unusedSimpArgs false
/- laws to paste: Road.backV (cut by pick.py; bodies as the Statement names them) -/
namespace Jvm.Pilot.@@N@@
namespace StrChars
open Jvm Sem ClassFile Op Lib Jvm.Stand Jvm.Free.XT Jvm.Free.ALB Jvm.Free.JM Jvm.Free
open Jvm.Lib.Cold (StaticIs)
/-- a char array whose places are chars -/
def Ch (a : Addr) (A : Cell) (U : State) : Prop := Arr .char a A U ∧ Typed .char A
theorem Ch.mv {a : Addr} {A : Cell} {U U' : State} (h : Ch a A U) (hal : U.vm.Alike U'.vm) (hh : U'.heap = U.heap) : Ch a A U' := ⟨h.1.mv hal hh, h.2⟩
theorem Ch.keep {a : Addr} {A : Cell} {U U' : State} (h : Ch a A U) (hal : U.vm.Alike U'.vm) (hk : U'.heap[a]? = some A) : Ch a A U' := ⟨h.1.keep hal hk, h.2⟩
/-- what place i of a char[]'s cell holds -/
def cv (A : Cell) (i : Nat) : Int32 := match A.slots[i]? with | some (.int x) => x | _ => 0
theorem Ch.get {a : Addr} {A : Cell} {U : State} (h : Ch a A U) {i : Nat} (hi : i < A.slots.size) : A.slots[i]? = some (.int (cv A i)) := by
  have e := Array.getElem?_eq_getElem hi
  have f := h.2 i _ e
  unfold cv; rw [e]
  generalize A.slots[i] = v at f
  cases v <;> simp [fits] at f ⊢
/-- the byte that i2b leaves of a char -/
def lo8 (x : Int32) : Int32 := x.toInt8.toInt32
theorem fits_lo8 (y : Int32) : fits .byte (.int (lo8 y)) = true := by
  have h1 := y.toInt8.le_toInt
  have h2 := y.toInt8.toInt_lt
  simp only [lo8, fits, Bool.and_eq_true, decide_eq_true_eq, Int32.le_iff_toInt_le, Int8.toInt_toInt32, show (-128 : Int32).toInt = -128 from by decide, show (127 : Int32).toInt = 127 from by decide]
  omega
/-- A' is A but that each place j of lo .. hi - 1 holds f j -/
def Laid (A A' : Cell) (lo hi : Nat) (f : Nat → Value) : Prop := A'.cls = A.cls ∧ A'.vm = A.vm ∧ A'.slots.size = A.slots.size ∧ ∀ i, A'.slots[i]? = if lo ≤ i ∧ i < hi then some (f i) else A.slots[i]?
theorem Laid.zero (A : Cell) (lo : Nat) (f : Nat → Value) : Laid A A lo (lo + 0) f := ⟨rfl, rfl, rfl, fun i => by rw [if_neg (by omega)]⟩
theorem Laid.step {A Ak : Cell} {lo k : Nat} {f : Nat → Value} {v : Value} (h : Laid A Ak lo k f) (hlo : lo ≤ k) (hk : k < Ak.slots.size) (hv : v = f k) : Laid A (Ak.setSlot k v) lo (k + 1) f := by
  refine ⟨h.1, h.2.1, by simpa [Cell.setSlot] using h.2.2.1, fun i => ?_⟩
  by_cases e : k = i
  · subst e; rw [Cell.slots_setSlot_self v hk, if_pos (by omega), hv]
  · rw [Cell.slots_setSlot_ne v e, h.2.2.2 i]
    by_cases q : lo ≤ i ∧ i < k
    · rw [if_pos q, if_pos (by omega)]
    · rw [if_neg q, if_neg (by omega)]
def U16 : String := "java/lang/StringUTF16"
namespace Cmp5
def yN : MethodName := ⟨"java/lang/StringUTF16", "compress", "([CI[BII)I"⟩
abbrev yB : ByteArray := jdk_52_method_21_code
theorem d0 : decode yB 0 = .ok (.iconst 0, 1) := by decide +kernel
theorem d1 : decode yB 1 = .ok (.istore 5, 2) := by decide +kernel
theorem d3 : decode yB 3 = .ok (.iload 5, 2) := by decide +kernel
theorem d5 : decode yB 5 = .ok (.iload 4, 2) := by decide +kernel
theorem d7 : decode yB 7 = .ok (.if_icmp (.ge) 37, 3) := by decide +kernel
theorem d10 : decode yB 10 = .ok (.aload_n 0, 1) := by decide +kernel
theorem d11 : decode yB 11 = .ok (.iload_n 1, 1) := by decide +kernel
theorem d12 : decode yB 12 = .ok (.caload, 1) := by decide +kernel
theorem d13 : decode yB 13 = .ok (.istore 6, 2) := by decide +kernel
theorem d15 : decode yB 15 = .ok (.iload 6, 2) := by decide +kernel
theorem d17 : decode yB 17 = .ok (.sipush 255, 3) := by decide +kernel
theorem d20 : decode yB 20 = .ok (.if_icmp (.le) 6, 3) := by decide +kernel
theorem d26 : decode yB 26 = .ok (.aload_n 2, 1) := by decide +kernel
theorem d27 : decode yB 27 = .ok (.iload_n 3, 1) := by decide +kernel
theorem d28 : decode yB 28 = .ok (.iload 6, 2) := by decide +kernel
theorem d30 : decode yB 30 = .ok (.i2b, 1) := by decide +kernel
theorem d31 : decode yB 31 = .ok (.bastore, 1) := by decide +kernel
theorem d32 : decode yB 32 = .ok (.iinc 1 1, 3) := by decide +kernel
theorem d35 : decode yB 35 = .ok (.iinc 3 1, 3) := by decide +kernel
theorem d38 : decode yB 38 = .ok (.iinc 5 1, 3) := by decide +kernel
theorem d41 : decode yB 41 = .ok (.goto (-38), 3) := by decide +kernel
theorem d44 : decode yB 44 = .ok (.iload 4, 2) := by decide +kernel
theorem d46 : decode yB 46 = .ok (.ireturn, 1) := by decide +kernel
def site : List Cond := []
def tab : Cond := tabOf yN yB 7 (some .int) site
def P (b : Addr) (A : Cell) (d : Addr) (B : Cell) (o q len : Nat) (args : Array Value) (s : State) : Prop := args = #[.ref b, .int (Int32.ofNat o), .ref d, .int (Int32.ofNat q), .int (Int32.ofNat len)] ∧ Ch b A s ∧ Arr .byte d B s ∧ b ≠ d ∧ o + len ≤ A.slots.size ∧ q + len ≤ B.slots.size ∧ ∀ i, i < len → ¬ 255 < cv A (o + i)
def E (b : Addr) (A : Cell) (d : Addr) (B : Cell) (o q len : Nat) (r : Option Value) (s u : State) : Prop := r = some (.int (Int32.ofNat len)) ∧ ∃ B', Put d B' s u ∧ Laid B B' q (q + len) (fun j => Value.int (lo8 (cv A (o + (j - q)))))
/-- no char of the range above 255: len; the places written hold each char's low byte -/
theorem law (l : Launch) (b : Addr) (A : Cell) (d : Addr) (B : Cell) (o q len : Nat) : Law l yN 5 5 0 0 yB 7 (some .int) site (P b A d B o q len) (E b A d B o q len) (copyLocs d q len) 0 0 := by
  refine Law.of_walk (plainFor_of_name (by decide +kernel)) (by decide +kernel) (by decide +kernel) (by decide) (fun _ _ h => by rw [h.1]; rfl) (fun _ U U' hal hh h => ⟨h.1, h.2.1.mv hal hh, h.2.2.1.mv hal hh, h.2.2.2⟩) (fun r U U' V V' h1 hal h2 h => ⟨h.1, h.2.elim fun B' q => ⟨B', q.1.mv h1 h2, q.2⟩⟩) ?_
  intro p e s m args below meth c s₁ X0 hexec hbytes hml hret hlk hnm hown hh0 W hP
  obtain ⟨rfl, hA, hB, hne, l1, l2, hp⟩ := hP
  have c1 : Steps p.tables e below (s₁.setTop (entryFrame m #[.ref b, .int (Int32.ofNat o), .ref d, .int (Int32.ofNat q), .int (Int32.ofNat len)] 7)) (s₁.setTop (mkF m 0 #[.val (.ref b), .val (.int (Int32.ofNat o)), .val (.ref d), .val (.int (Int32.ofNat q)), .val (.int (Int32.ofNat len)), .unset, .unset] [])) := entry rfl
  have hA0 := hA.1.mv X0.warmed.alike hh0
  have hB0 := hB.mv X0.warmed.alike hh0
  have a31 := hA.1.2.2.2
  have c2 : Steps p.tables e below (s₁.setTop (entryFrame m #[.ref b, .int (Int32.ofNat o), .ref d, .int (Int32.ofNat q), .int (Int32.ofNat len)] 7)) (s₁.setTop (mkF m 3 #[.val (.ref b), .val (.int (Int32.ofNat o)), .val (.ref d), .val (.int (Int32.ofNat q)), .val (.int (Int32.ofNat len)), .val (.int 0), .unset] [])) := c1.trans (by
    refine iconstV X0.here hexec rfl 0 (hb hbytes d0) (by decide) ?_
    refine XS.istore X0.here hexec rfl (hb hbytes d1) rfl rfl ?_
    exact Steps.refl _)
  have loop : ∀ (r i : Nat), i + r = len → ∀ (z : Slot), (z = .unset ∨ ∃ w, z = .val w ∧ w.category = 1) → ∀ (Tl : State) (Bk : Cell), Stand p l e { frames := 0, locals := 0, cells := 0, slots := 0 } s m #[.ref b, .int (Int32.ofNat o), .ref d, .int (Int32.ofNat q), .int (Int32.ofNat len)] below meth c Tl ([] ++ copyLocs d q i) 0 0 → Put d Bk s₁ Tl → Laid B Bk q (q + i) (fun j => Value.int (lo8 (cv A (o + (j - q))))) →
      Steps p.tables e below (s₁.setTop (entryFrame m #[.ref b, .int (Int32.ofNat o), .ref d, .int (Int32.ofNat q), .int (Int32.ofNat len)] 7)) (Tl.setTop (mkF m 3 #[.val (.ref b), .val (.int (Int32.ofNat (o + i))), .val (.ref d), .val (.int (Int32.ofNat (q + i))), .val (.int (Int32.ofNat len)), .val (.int (Int32.ofNat i)), z] [])) → ∃ (T' : State) (B' : Cell) (z' : Slot), Stand p l e { frames := 0, locals := 0, cells := 0, slots := 0 } s m #[.ref b, .int (Int32.ofNat o), .ref d, .int (Int32.ofNat q), .int (Int32.ofNat len)] below meth c T' ([] ++ copyLocs d q len) 0 0 ∧ Put d B' s₁ T' ∧ Laid B B' q (q + len) (fun j => Value.int (lo8 (cv A (o + (j - q))))) ∧
      Steps p.tables e below (s₁.setTop (entryFrame m #[.ref b, .int (Int32.ofNat o), .ref d, .int (Int32.ofNat q), .int (Int32.ofNat len)] 7)) (T'.setTop (mkF m 3 #[.val (.ref b), .val (.int (Int32.ofNat (o + len))), .val (.ref d), .val (.int (Int32.ofNat (q + len))), .val (.int (Int32.ofNat len)), .val (.int (Int32.ofNat len)), z'] [])) := by
    intro r
    induction r with
    | zero =>
      intro i hi z hz Tl Bk Xl pl fl cl
      have hil : i = len := by omega
      rw [hil] at Xl fl cl
      exact ⟨Tl, Bk, z, Xl, pl, fl, cl⟩
    | succ r ih =>
      intro i hi z hz Tl Bk Xl pl fl cl
      have all := X0.warmed.alike.symm.trans Xl.warmed.alike
      have hAl := hA0.keep all (pl.other hne hA0.1)
      have hBk := hB0.like all pl.1 fl.1 fl.2.1 fl.2.2.1
      have hlt : q + i < Bk.slots.size := by rw [fl.2.2.1]; omega
      have c3 : Steps p.tables e below (s₁.setTop (entryFrame m #[.ref b, .int (Int32.ofNat o), .ref d, .int (Int32.ofNat q), .int (Int32.ofNat len)] 7)) (Tl.setTop (mkF m 12 #[.val (.ref b), .val (.int (Int32.ofNat (o + i))), .val (.ref d), .val (.int (Int32.ofNat (q + i))), .val (.int (Int32.ofNat len)), .val (.int (Int32.ofNat i)), z] [.int (Int32.ofNat (o + i)), .ref b])) := cl.trans (by
        refine XS.iload Xl.here hexec rfl (hb hbytes d3) rfl ?_
        refine XS.iload Xl.here hexec rfl (hb hbytes d5) rfl ?_
        refine XS.icmpNo Xl.here hexec rfl (hb hbytes d7) rfl (ii_ge_f (lt32 (by omega) (by omega))) ?_
        refine XS.aloadN Xl.here hexec rfl (hb hbytes d10) rfl rfl ?_
        refine XS.iloadN Xl.here hexec rfl (hb hbytes d11) rfl ?_
        exact Steps.refl _)
      have c4 : Steps p.tables e below (s₁.setTop (entryFrame m #[.ref b, .int (Int32.ofNat o), .ref d, .int (Int32.ofNat q), .int (Int32.ofNat len)] 7)) (Tl.setTop (mkF m 13 #[.val (.ref b), .val (.int (Int32.ofNat (o + i))), .val (.ref d), .val (.int (Int32.ofNat (q + i))), .val (.int (Int32.ofNat len)), .val (.int (Int32.ofNat i)), z] [.int (cv A (o + i))])) := c3.trans (by
        refine Xl.aget hexec hAl rfl (hA.get (i := o + i) (by omega)) rfl rfl (hb hbytes d12) ?_
        exact Steps.refl _)
      have c5 : Steps p.tables e below (s₁.setTop (entryFrame m #[.ref b, .int (Int32.ofNat o), .ref d, .int (Int32.ofNat q), .int (Int32.ofNat len)] 7)) (Tl.setTop (mkF m 15 #[.val (.ref b), .val (.int (Int32.ofNat (o + i))), .val (.ref d), .val (.int (Int32.ofNat (q + i))), .val (.int (Int32.ofNat len)), .val (.int (Int32.ofNat i)), .val (.int (cv A (o + i)))] [])) := c4.trans (by
        refine XS.istoreS Xl.here hexec rfl (hb hbytes d13) rfl rfl hz ?_
        exact Steps.refl _)
      have c6 : Steps p.tables e below (s₁.setTop (entryFrame m #[.ref b, .int (Int32.ofNat o), .ref d, .int (Int32.ofNat q), .int (Int32.ofNat len)] 7)) (Tl.setTop (mkF m 31 #[.val (.ref b), .val (.int (Int32.ofNat (o + i))), .val (.ref d), .val (.int (Int32.ofNat (q + i))), .val (.int (Int32.ofNat len)), .val (.int (Int32.ofNat i)), .val (.int (cv A (o + i)))] [.int (lo8 (cv A (o + i))), .int (Int32.ofNat (q + i)), .ref d])) := c5.trans (by
        refine XS.iload Xl.here hexec rfl (hb hbytes d15) rfl ?_
        refine sipushV Xl.here hexec rfl 255 (hb hbytes d17) (by decide) ?_
        refine XS.icmpYes Xl.here hexec rfl (pc0 := 20) rfl (hb hbytes d20) rfl (ii_le_t (hp i (by omega))) (by decide) rfl ?_
        refine XS.aloadN Xl.here hexec rfl (hb hbytes d26) rfl rfl ?_
        refine XS.iloadN Xl.here hexec rfl (hb hbytes d27) rfl ?_
        refine XS.iload Xl.here hexec rfl (hb hbytes d28) rfl ?_
        refine i2b Xl.here hexec rfl (hb hbytes d30) rfl ?_
        exact Steps.refl _)
      obtain ⟨T7, X7, p7, st7⟩ := Xl.aput hexec hBk rfl hlt rfl (fits_lo8 (cv A (o + i))) (g := (mkF m 31 #[.val (.ref b), .val (.int (Int32.ofNat (o + i))), .val (.ref d), .val (.int (Int32.ofNat (q + i))), .val (.int (Int32.ofNat len)), .val (.int (Int32.ofNat i)), .val (.int (cv A (o + i)))] [.int (lo8 (cv A (o + i))), .int (Int32.ofNat (q + i)), .ref d])) rfl (rest := []) rfl (hb hbytes d31)
      have c8 : Steps p.tables e below (s₁.setTop (entryFrame m #[.ref b, .int (Int32.ofNat o), .ref d, .int (Int32.ofNat q), .int (Int32.ofNat len)] 7)) (T7.setTop (mkF m 32 #[.val (.ref b), .val (.int (Int32.ofNat (o + i))), .val (.ref d), .val (.int (Int32.ofNat (q + i))), .val (.int (Int32.ofNat len)), .val (.int (Int32.ofNat i)), .val (.int (cv A (o + i)))] [])) := c6.trans (st7 _ (Steps.refl _))
      have c9 : Steps p.tables e below (s₁.setTop (entryFrame m #[.ref b, .int (Int32.ofNat o), .ref d, .int (Int32.ofNat q), .int (Int32.ofNat len)] 7)) (T7.setTop (mkF m 3 #[.val (.ref b), .val (.int (Int32.ofNat (o + i) + 1)), .val (.ref d), .val (.int (Int32.ofNat (q + i) + 1)), .val (.int (Int32.ofNat len)), .val (.int (Int32.ofNat i + 1)), .val (.int (cv A (o + i)))] [])) := c8.trans (by
        refine iincV X7.here hexec rfl 1 (hb hbytes d32) (by decide) rfl rfl ?_
        refine iincV X7.here hexec rfl 1 (hb hbytes d35) (by decide) rfl rfl ?_
        refine iincV X7.here hexec rfl 1 (hb hbytes d38) (by decide) rfl rfl ?_
        refine XS.goto X7.here hexec rfl (pc0 := 41) rfl (hb hbytes d41) (by decide) rfl ?_
        exact Steps.refl _)
      have c10 : Steps p.tables e below (s₁.setTop (entryFrame m #[.ref b, .int (Int32.ofNat o), .ref d, .int (Int32.ofNat q), .int (Int32.ofNat len)] 7)) (T7.setTop (mkF m 3 #[.val (.ref b), .val (.int (Int32.ofNat (o + (i + 1)))), .val (.ref d), .val (.int (Int32.ofNat (q + (i + 1)))), .val (.int (Int32.ofNat len)), .val (.int (Int32.ofNat (i + 1))), .val (.int (cv A (o + i)))] [])) := by
        have := c9
        rw [succ32, succ32, succ32] at this
        exact this
      exact ih (i + 1) (by omega) _ (Or.inr ⟨_, rfl, rfl⟩) T7 _ (by rw [copyLocs_step, ← List.append_assoc]; exact X7) (pl.trans p7) (fl.step (by omega) hlt (by simp)) c10
  obtain ⟨T9, B9, z9, X9, p9, f9, g9⟩ := loop len 0 (by omega) .unset (Or.inl rfl) s₁ B (by simpa [copyLocs] using X0) ⟨hB0.1, fun _ _ => rfl, rfl⟩ (Laid.zero _ _ _) c2
  have c11 : Steps p.tables e below (s₁.setTop (entryFrame m #[.ref b, .int (Int32.ofNat o), .ref d, .int (Int32.ofNat q), .int (Int32.ofNat len)] 7)) (T9.setTop (mkF m 46 #[.val (.ref b), .val (.int (Int32.ofNat (o + len))), .val (.ref d), .val (.int (Int32.ofNat (q + len))), .val (.int (Int32.ofNat len)), .val (.int (Int32.ofNat len)), z9] [.int (Int32.ofNat len)])) := g9.trans (by
    refine XS.iload X9.here hexec rfl (hb hbytes d3) rfl ?_
    refine XS.iload X9.here hexec rfl (hb hbytes d5) rfl ?_
    refine XS.icmpYes X9.here hexec rfl (pc0 := 7) rfl (hb hbytes d7) rfl (ii_ge_t (nlt32 (by omega) (Nat.le_refl _))) (by decide) rfl ?_
    refine XS.iload X9.here hexec rfl (hb hbytes d44) rfl ?_
    exact Steps.refl _)
  exact ⟨T9, some (.int (Int32.ofNat len)), _, _, _, X9, by simp, rfl, rfl, (fun h => by cases h), ⟨rfl, B9, p9.from hh0, f9⟩, fun fs hl => c11.trans (X9.ireturnOut hexec hret rfl (Or.inl rfl) (hb hbytes d46) hl)⟩
end Cmp5
namespace Cmp3
def yN : MethodName := ⟨"java/lang/StringUTF16", "compress", "([CII)[B"⟩
abbrev yB : ByteArray := jdk_52_method_16_code
theorem d0 : decode yB 0 = .ok (.iload_n 2, 1) := by decide +kernel
theorem d1 : decode yB 1 = .ok (.newarray .byte, 2) := by decide +kernel
theorem d3 : decode yB 3 = .ok (.astore_n 3, 1) := by decide +kernel
theorem d4 : decode yB 4 = .ok (.aload_n 0, 1) := by decide +kernel
theorem d5 : decode yB 5 = .ok (.iload_n 1, 1) := by decide +kernel
theorem d6 : decode yB 6 = .ok (.aload_n 3, 1) := by decide +kernel
theorem d7 : decode yB 7 = .ok (.iconst 0, 1) := by decide +kernel
theorem d8 : decode yB 8 = .ok (.iload_n 2, 1) := by decide +kernel
theorem d9 : decode yB 9 = .ok (.invokestatic 115, 3) := by decide +kernel
theorem d12 : decode yB 12 = .ok (.istore 4, 2) := by decide +kernel
theorem d14 : decode yB 14 = .ok (.iload 4, 2) := by decide +kernel
theorem d16 : decode yB 16 = .ok (.iload_n 2, 1) := by decide +kernel
theorem d17 : decode yB 17 = .ok (.if_icmp (.eq) 40, 3) := by decide +kernel
theorem d57 : decode yB 57 = .ok (.aload_n 3, 1) := by decide +kernel
theorem d58 : decode yB 58 = .ok (.areturn, 1) := by decide +kernel
def site : List Cond := [.arrayClass .byte, Cmp5.tab] ++ staticW U16 115 Cmp5.yN
def tab : Cond := tabOf yN yB 6 (some (.array .byte)) site
def P (b : Addr) (A : Cell) (o len : Nat) (args : Array Value) (s : State) : Prop := args = #[.ref b, .int (Int32.ofNat o), .int (Int32.ofNat len)] ∧ Ch b A s ∧ o + len ≤ A.slots.size ∧ len ≤ 536870912 ∧ ∀ i, i < len → ¬ 255 < cv A (o + i)
def E (b : Addr) (A : Cell) (o len : Nat) (r : Option Value) (s u : State) : Prop := NewArr .byte "[B" len (fun j => .int (lo8 (cv A (o + j)))) r s u ∧ u.heap.size = s.heap.size + 1
/-- no char of the range above 255: a new byte[] of their low bytes -/
theorem law (l : Launch) (b : Addr) (A : Cell) (o len : Nat) : Law l yN 3 3 1 18 yB 6 (some (.array .byte)) site (P b A o len) (E b A o len) [] 1 len := by
  refine Law.of_walk (plainFor_of_name (by decide +kernel)) (by decide +kernel) (by decide +kernel) (by decide) (fun _ _ h => by rw [h.1]; rfl) (fun _ U U' hal hh h => ⟨h.1, h.2.1.mv hal hh, h.2.2⟩) (fun r U U' V V' h1 hal h2 h => ⟨NewArr.mv r U U' V V' h1 hal h2 h.1, by rw [h1, h2]; exact h.2⟩) ?_
  intro p e s m args below meth c s₁ X0 hexec hbytes hml hret hlk hnm hown hh0 W hP
  obtain ⟨rfl, hA, l1, l2, hp⟩ := hP
  have a31 := hA.1.2.2.2
  have c1 : Steps p.tables e below (s₁.setTop (entryFrame m #[.ref b, .int (Int32.ofNat o), .int (Int32.ofNat len)] 6)) (s₁.setTop (mkF m 0 #[.val (.ref b), .val (.int (Int32.ofNat o)), .val (.int (Int32.ofNat len)), .unset, .unset, .unset] [])) := entry rfl
  have c2 : Steps p.tables e below (s₁.setTop (entryFrame m #[.ref b, .int (Int32.ofNat o), .int (Int32.ofNat len)] 6)) (s₁.setTop (mkF m 1 #[.val (.ref b), .val (.int (Int32.ofNat o)), .val (.int (Int32.ofNat len)), .unset, .unset, .unset] [.int (Int32.ofNat len)])) := c1.trans (by
    refine XS.iloadN X0.here hexec rfl (hb hbytes d0) rfl ?_
    exact Steps.refl _)
  obtain ⟨T3, B3, X3, ba3, bs3, bv3, bh3, bf3, st3⟩ := X0.anew hexec (atype := .byte) (wk W (.arrayClass .byte)) rfl (by show len * 1 ≤ _; omega) (by omega) (g := (mkF m 1 #[.val (.ref b), .val (.int (Int32.ofNat o)), .val (.int (Int32.ofNat len)), .unset, .unset, .unset] [.int (Int32.ofNat len)])) rfl (hb hbytes d1) (rest := []) rfl (Nat.le_refl _) (by show 0 + len ≤ len; omega)
  rw [hh0] at ba3 st3
  have kp3 : XT.Kept s T3 := (XT.Kept.of_eq hh0).push bh3
  have hA3 := hA.keep X3.warmed.alike (kp3 _ _ hA.1.1)
  have hne : b ≠ s.heap.size := hA.1.ne
  have c4 : Steps p.tables e below (s₁.setTop (entryFrame m #[.ref b, .int (Int32.ofNat o), .int (Int32.ofNat len)] 6)) (T3.setTop (mkF m 3 #[.val (.ref b), .val (.int (Int32.ofNat o)), .val (.int (Int32.ofNat len)), .unset, .unset, .unset] [.ref s.heap.size])) := c2.trans (st3 _ (Steps.refl _))
  have c5 : Steps p.tables e below (s₁.setTop (entryFrame m #[.ref b, .int (Int32.ofNat o), .int (Int32.ofNat len)] 6)) (T3.setTop (mkF m 9 #[.val (.ref b), .val (.int (Int32.ofNat o)), .val (.int (Int32.ofNat len)), .val (.ref s.heap.size), .unset, .unset] [.int (Int32.ofNat len), .int 0, .ref s.heap.size, .int (Int32.ofNat o), .ref b])) := c4.trans (by
    refine XS.astoreN X3.here hexec rfl (hb hbytes d3) rfl rfl rfl ?_
    refine XS.aloadN X3.here hexec rfl (hb hbytes d4) rfl rfl ?_
    refine XS.iloadN X3.here hexec rfl (hb hbytes d5) rfl ?_
    refine XS.aloadN X3.here hexec rfl (hb hbytes d6) rfl rfl ?_
    refine iconstV X3.here hexec rfl 0 (hb hbytes d7) (by decide) ?_
    refine XS.iloadN X3.here hexec rfl (hb hbytes d8) rfl ?_
    exact Steps.refl _)
  obtain ⟨v6, T6, X6, E6, g6⟩ := X3.callS hexec (Cmp5.law l b A s.heap.size B3 o 0 len) hown (wks W (staticW U16 115 Cmp5.yN)) (wk W Cmp5.tab) (W := 0) (Nat.le_of_ble_eq_true rfl) (Nat.le_of_ble_eq_true rfl) (Nat.le_refl _) (by show 0 + len + 0 ≤ len; omega) (g := (mkF m 9 #[.val (.ref b), .val (.int (Int32.ofNat o)), .val (.int (Int32.ofNat len)), .val (.ref s.heap.size), .unset, .unset] [.int (Int32.ofNat len), .int (Int32.ofNat 0), .ref s.heap.size, .int (Int32.ofNat o), .ref b])) rfl (by rw [hml]; rfl) c5 (argsL := [.ref b, .int (Int32.ofNat o), .ref s.heap.size, .int (Int32.ofNat 0), .int (Int32.ofNat len)]) (rest := []) rfl rfl (by show 2 * 0 + 0 ≤ _; decide) (hb hbytes d9) (⟨rfl, hA3, ba3, hne, l1, by rw [bs3]; simp, hp⟩)
  obtain ⟨rfl, B6, p6, f6⟩ := E6
  have c7 : Steps p.tables e below (s₁.setTop (entryFrame m #[.ref b, .int (Int32.ofNat o), .int (Int32.ofNat len)] 6)) (T6.setTop (mkF m 12 #[.val (.ref b), .val (.int (Int32.ofNat o)), .val (.int (Int32.ofNat len)), .val (.ref s.heap.size), .unset, .unset] [.int (Int32.ofNat len)])) := g6
  have c8 : Steps p.tables e below (s₁.setTop (entryFrame m #[.ref b, .int (Int32.ofNat o), .int (Int32.ofNat len)] 6)) (T6.setTop (mkF m 58 #[.val (.ref b), .val (.int (Int32.ofNat o)), .val (.int (Int32.ofNat len)), .val (.ref s.heap.size), .val (.int (Int32.ofNat len)), .unset] [.ref s.heap.size])) := c7.trans (by
    refine XS.istore X6.here hexec rfl (hb hbytes d12) rfl rfl ?_
    refine XS.iload X6.here hexec rfl (hb hbytes d14) rfl ?_
    refine XS.iloadN X6.here hexec rfl (hb hbytes d16) rfl ?_
    refine XS.icmpYes X6.here hexec rfl (pc0 := 17) rfl (hb hbytes d17) rfl (ii_eq_t rfl) (by decide) rfl ?_
    refine XS.aloadN X6.here hexec rfl (hb hbytes d57) rfl rfl ?_
    exact Steps.refl _)
  have X8 := X6.wide (L' := []) (cells' := 1) (slots' := len) (fun x hx hlt => by
    simp only [List.nil_append, copyLocs, List.mem_map, List.mem_range] at hx
    obtain ⟨i, -, rfl⟩ := hx
    exact absurd hlt (Nat.lt_irrefl _)) (Nat.le_refl _) (by omega)
  exact ⟨T6, some (.ref s.heap.size), _, _, _, X8, rfl, rfl, rfl, (fun h => by cases h), ⟨⟨rfl, B6, ba3.like (X3.warmed.alike.symm.trans X6.warmed.alike) p6.1 f6.1 f6.2.1 f6.2.2.1, f6.2.1.trans bv3, by rw [X6.warmed.alike.findClass, f6.1]; exact bf3, by rw [f6.2.2.1, bs3]; simp, fun j hj => by rw [f6.2.2.2 j, if_pos (by omega)]; rfl, kp3.put p6 (Nat.le_refl _)⟩, by rw [p6.2.2, bh3, hh0]; simp⟩, fun fs hl => c8.trans (X8.areturnOut hexec rfl hret rfl (hb hbytes d58) hl)⟩
end Cmp3
namespace CodL
def yN : MethodName := ⟨"java/lang/StringUTF16", "coderFromArrayLen", "([BI)B"⟩
abbrev yB : ByteArray := jdk_52_method_15_code
theorem d0 : decode yB 0 = .ok (.iload_n 1, 1) := by decide +kernel
theorem d1 : decode yB 1 = .ok (.aload_n 0, 1) := by decide +kernel
theorem d2 : decode yB 2 = .ok (.arraylength, 1) := by decide +kernel
theorem d3 : decode yB 3 = .ok (.isub, 1) := by decide +kernel
theorem d4 : decode yB 4 = .ok (.bipush 31, 2) := by decide +kernel
theorem d6 : decode yB 6 = .ok (.iushr, 1) := by decide +kernel
theorem d7 : decode yB 7 = .ok (.i2b, 1) := by decide +kernel
theorem d8 : decode yB 8 = .ok (.ireturn, 1) := by decide +kernel
def site : List Cond := []
def tab : Cond := tabOf yN yB 2 (some .byte) site
def P (d : Addr) (B : Cell) (args : Array Value) (s : State) : Prop := args = #[.ref d, .int (Int32.ofNat B.slots.size)] ∧ Arr .byte d B s
def E (r : Option Value) (s u : State) : Prop := XT.PureE (some (.int 0)) r s u
/-- an array as long as the number of chars: LATIN1 -/
theorem law (l : Launch) (d : Addr) (B : Cell) : Law l yN 2 2 0 0 yB 2 (some .byte) site (P d B) E [] 0 0 := by
  refine Law.of_walk (plainFor_of_name (by decide +kernel)) (by decide +kernel) (by decide +kernel) (by decide) (fun _ _ h => by rw [h.1]; rfl) (fun _ U U' hal hh h => ⟨h.1, h.2.mv hal hh⟩) (fun r U U' V V' h1 hal h2 h => XT.PureE.mv r U U' V V' h1 hal h2 h) ?_
  intro p e s m args below meth c s₁ X0 hexec hbytes hml hret hlk hnm hown hh0 W hP
  obtain ⟨rfl, hB⟩ := hP
  have hB0 := hB.mv X0.warmed.alike hh0
  have c1 : Steps p.tables e below (s₁.setTop (entryFrame m #[.ref d, .int (Int32.ofNat B.slots.size)] 2)) (s₁.setTop (mkF m 0 #[.val (.ref d), .val (.int (Int32.ofNat B.slots.size))] [])) := entry rfl
  have c2 : Steps p.tables e below (s₁.setTop (entryFrame m #[.ref d, .int (Int32.ofNat B.slots.size)] 2)) (s₁.setTop (mkF m 2 #[.val (.ref d), .val (.int (Int32.ofNat B.slots.size))] [.ref d, .int (Int32.ofNat B.slots.size)])) := c1.trans (by
    refine XS.iloadN X0.here hexec rfl (hb hbytes d0) rfl ?_
    refine XS.aloadN X0.here hexec rfl (hb hbytes d1) rfl rfl ?_
    exact Steps.refl _)
  have c3 : Steps p.tables e below (s₁.setTop (entryFrame m #[.ref d, .int (Int32.ofNat B.slots.size)] 2)) (s₁.setTop (mkF m 8 #[.val (.ref d), .val (.int (Int32.ofNat B.slots.size))] [.int (lo8 (ushr (Int32.ofNat B.slots.size - Int32.ofNat B.slots.size) 31))])) := c2.trans (by
    refine X0.alen hexec hB0 rfl rfl (hb hbytes d2) ?_
    refine XS.isub X0.here hexec rfl (hb hbytes d3) rfl ?_
    refine bipushV X0.here hexec rfl 31 (hb hbytes d4) (by decide) ?_
    refine iushr X0.here hexec rfl (hb hbytes d6) rfl ?_
    refine i2b X0.here hexec rfl (hb hbytes d7) rfl ?_
    exact Steps.refl _)
  have e0 : lo8 (ushr (Int32.ofNat B.slots.size - Int32.ofNat B.slots.size) 31) = 0 := by rw [Int32.sub_self]; decide
  rw [e0] at c3
  exact ⟨s₁, some (.int 0), _, _, _, X0, rfl, rfl, rfl, (fun h => by cases h), ⟨rfl, hh0⟩, fun fs hl => c3.trans (X0.ireturnOut hexec hret rfl (Or.inr (Or.inr (Or.inl rfl))) (hb hbytes d8) hl)⟩
end CodL
/-- the String at a is Latin-1 over a new byte[] (the heap's one new cell): the low bytes of the len chars of A from o on; every cell but a is kept -/
def Got (a : Addr) (D : Cell) (fV fC : Field) (A : Cell) (o len : Nat) (r : Option Value) (s u : State) : Prop := r = none ∧ ∃ D' V : Cell, Blank "java/lang/String" a D' u ∧ Same D D' [fV.slot, fC.slot] ∧ D'.slots[fV.slot]? = some (.ref s.heap.size) ∧ D'.slots[fC.slot]? = some (.int 0) ∧ Arr .byte s.heap.size V u ∧ V.vm = .none ∧ u.vm.findClass "[B" = some V.cls ∧ V.slots.size = len ∧ (∀ j, j < len → V.slots[j]? = some (.int (lo8 (cv A (o + j))))) ∧ (∀ (y : Addr) (c : Cell), y ≠ a → s.heap[y]? = some c → u.heap[y]? = some c) ∧ u.heap.size = s.heap.size + 1
theorem Got.mv {a : Addr} {D A : Cell} {fV fC : Field} {o len : Nat} : ∀ r (U U' V V' : State), U'.heap = U.heap → V.vm.Alike V'.vm → V'.heap = V.heap → Got a D fV fC A o len r U V → Got a D fV fC A o len r U' V' :=
  fun r U U' V V' h1 hal h2 ⟨e0, D', X, a1, a2, a3, a4, a5, a6, a7, a8, a9, a10, a11⟩ => ⟨e0, D', X, a1.mv hal h2, a2, by rw [h1]; exact a3, a4, by rw [h1]; exact a5.mv hal h2, a6, by rw [hal.findClass]; exact a7, a8, a9, by rw [h1, h2]; exact a10, by rw [h1, h2]; exact a11⟩
namespace New4
def yN : MethodName := ⟨"java/lang/String", "<init>", "([CIILjava/lang/Void;)V"⟩
abbrev yB : ByteArray := jdk_42_method_149_code
theorem d0 : decode yB 0 = .ok (.aload_n 0, 1) := by decide +kernel
theorem d1 : decode yB 1 = .ok (.invokespecial 1, 3) := by decide +kernel
theorem d4 : decode yB 4 = .ok (.iload_n 3, 1) := by decide +kernel
theorem d5 : decode yB 5 = .ok (.ifCond (.ne) 22, 3) := by decide +kernel
theorem d27 : decode yB 27 = .ok (.getstatic 38, 3) := by decide +kernel
theorem d30 : decode yB 30 = .ok (.ifCond (.eq) 28, 3) := by decide +kernel
theorem d33 : decode yB 33 = .ok (.aload_n 1, 1) := by decide +kernel
theorem d34 : decode yB 34 = .ok (.iload_n 2, 1) := by decide +kernel
theorem d35 : decode yB 35 = .ok (.iload_n 3, 1) := by decide +kernel
theorem d36 : decode yB 36 = .ok (.invokestatic 177, 3) := by decide +kernel
theorem d39 : decode yB 39 = .ok (.astore 5, 2) := by decide +kernel
theorem d41 : decode yB 41 = .ok (.aload_n 0, 1) := by decide +kernel
theorem d42 : decode yB 42 = .ok (.aload 5, 2) := by decide +kernel
theorem d44 : decode yB 44 = .ok (.iload_n 3, 1) := by decide +kernel
theorem d45 : decode yB 45 = .ok (.invokestatic 47, 3) := by decide +kernel
theorem d48 : decode yB 48 = .ok (.putfield 15, 3) := by decide +kernel
theorem d51 : decode yB 51 = .ok (.aload_n 0, 1) := by decide +kernel
theorem d52 : decode yB 52 = .ok (.aload 5, 2) := by decide +kernel
theorem d54 : decode yB 54 = .ok (.putfield 9, 3) := by decide +kernel
theorem d57 : decode yB 57 = .ok (.return_, 1) := by decide +kernel
def site : List Cond := [.fieldLink "java/lang/String" 38 "java/lang/String" "COMPACT_STRINGS" "Z", Cmp3.tab, CodL.tab, .laysFinal "java/lang/String" "java/lang/String" "value" "[B", .fieldLink "java/lang/String" 9 "java/lang/String" "value" "[B", .laysFinal "java/lang/String" "java/lang/String" "coder" "B", .fieldLink "java/lang/String" 15 "java/lang/String" "coder" "B"] ++ objW "java/lang/String" 1 ++ staticW "java/lang/String" 177 Cmp3.yN ++ staticW "java/lang/String" 47 CodL.yN
def tab : Cond := tabOf yN yB 6 none site
def P (a : Addr) (D : Cell) (fV fC : Field) (b : Addr) (A : Cell) (z : Int32) (o len : Nat) (args : Array Value) (s : State) : Prop := args = #[.ref a, .ref b, .int (Int32.ofNat o), .int (Int32.ofNat len), .null] ∧ Blank "java/lang/String" a D s ∧ Found "java/lang/String" "value" "[B" fV s ∧ Found "java/lang/String" "coder" "B" fC s ∧ Ch b A s ∧ StaticIs s "java/lang/String" "COMPACT_STRINGS" "Z" (.int z) ∧ ¬ z = 0 ∧ 0 < len ∧ o + len ≤ A.slots.size ∧ len ≤ 536870912 ∧ ∀ i, i < len → ¬ 255 < cv A (o + i)
def E (a : Addr) (D : Cell) (fV fC : Field) (A : Cell) (o len : Nat) (r : Option Value) (s u : State) : Prop := Got a D fV fC A o len r s u
/-- len > 0, no char of the range above 255: a Latin-1 String of their low bytes -/
theorem law (l : Launch) (a : Addr) (D : Cell) (fV fC : Field) (b : Addr) (A : Cell) (z : Int32) (o len : Nat) : Law l yN 5 4 2 35 yB 6 none site (P a D fV fC b A z o len) (E a D fV fC A o len) [⟨a, fC.slot⟩, ⟨a, fV.slot⟩] 1 len := by
  refine Law.of_walk (plainFor_of_name (by decide +kernel)) (by decide +kernel) (by decide +kernel) (by decide) (fun _ _ h => by rw [h.1]; rfl) (fun _ U U' hal hh h => ⟨h.1, h.2.1.mv hal hh, h.2.2.1.al hal, h.2.2.2.1.al hal, h.2.2.2.2.1.mv hal hh, h.2.2.2.2.2.1.there hal hh, h.2.2.2.2.2.2⟩) (fun r U U' V V' h1 hal h2 h => Got.mv r U U' V V' h1 hal h2 h) ?_
  intro p e s m args below meth c s₁ X0 hexec hbytes hml hret hlk hnm hown hh0 W hP
  obtain ⟨rfl, hB, f1, f2, hA, s1, hz, l0, l1, l2, hp⟩ := hP
  have a31 := hA.1.2.2.2
  have c1 : Steps p.tables e below (s₁.setTop (entryFrame m #[.ref a, .ref b, .int (Int32.ofNat o), .int (Int32.ofNat len), .null] 6)) (s₁.setTop (mkF m 0 #[.val (.ref a), .val (.ref b), .val (.int (Int32.ofNat o)), .val (.int (Int32.ofNat len)), .val .null, .unset] [])) := entry rfl
  have c2 : Steps p.tables e below (s₁.setTop (entryFrame m #[.ref a, .ref b, .int (Int32.ofNat o), .int (Int32.ofNat len), .null] 6)) (s₁.setTop (mkF m 1 #[.val (.ref a), .val (.ref b), .val (.int (Int32.ofNat o)), .val (.int (Int32.ofNat len)), .val .null, .unset] [.ref a])) := c1.trans (by
    refine XS.aloadN X0.here hexec rfl (hb hbytes d0) rfl rfl ?_
    exact Steps.refl _)
  obtain ⟨T3, X3, q3, st3⟩ := X0.oinit hexec hown (wks W (objW "java/lang/String" 1)) (g := (mkF m 1 #[.val (.ref a), .val (.ref b), .val (.int (Int32.ofNat o)), .val (.int (Int32.ofNat len)), .val .null, .unset] [.ref a])) rfl (by rw [hml]; rfl) (rest := []) rfl (hb hbytes d1) (W := 0) (by show 2 * 0 + 0 ≤ _; decide) (Nat.le_of_ble_eq_true rfl) (Nat.le_of_ble_eq_true rfl)
  have hh3 := q3.trans hh0
  have c4 : Steps p.tables e below (s₁.setTop (entryFrame m #[.ref a, .ref b, .int (Int32.ofNat o), .int (Int32.ofNat len), .null] 6)) (T3.setTop (mkF m 27 #[.val (.ref a), .val (.ref b), .val (.int (Int32.ofNat o)), .val (.int (Int32.ofNat len)), .val .null, .unset] [])) := (c2.trans (st3 _ (Steps.refl _))).trans (by
    refine XS.iloadN X3.here hexec rfl (hb hbytes d4) rfl ?_
    refine XS.ifYes X3.here hexec rfl (pc0 := 5) rfl (hb hbytes d5) rfl (i0_ne_t (nz32 (by omega) l0)) (by decide) rfl ?_
    exact Steps.refl _)
  obtain ⟨T5, X5, q5, st5⟩ := X3.sget hexec hown (wk W (.fieldLink "java/lang/String" 38 "java/lang/String" "COMPACT_STRINGS" "Z")) s1 (fun _ _ h => by rw [hh3]; exact h) (g := (mkF m 27 #[.val (.ref a), .val (.ref b), .val (.int (Int32.ofNat o)), .val (.int (Int32.ofNat len)), .val .null, .unset] [])) rfl (hb hbytes d27)
  have hh5 := q5.trans hh3
  have c6 : Steps p.tables e below (s₁.setTop (entryFrame m #[.ref a, .ref b, .int (Int32.ofNat o), .int (Int32.ofNat len), .null] 6)) (T5.setTop (mkF m 30 #[.val (.ref a), .val (.ref b), .val (.int (Int32.ofNat o)), .val (.int (Int32.ofNat len)), .val .null, .unset] [.int z])) := c4.trans (st5 _ (Steps.refl _))
  have c7 : Steps p.tables e below (s₁.setTop (entryFrame m #[.ref a, .ref b, .int (Int32.ofNat o), .int (Int32.ofNat len), .null] 6)) (T5.setTop (mkF m 36 #[.val (.ref a), .val (.ref b), .val (.int (Int32.ofNat o)), .val (.int (Int32.ofNat len)), .val .null, .unset] [.int (Int32.ofNat len), .int (Int32.ofNat o), .ref b])) := c6.trans (by
    refine XS.ifNo X5.here hexec rfl (hb hbytes d30) rfl (i0_eq_f hz) ?_
    refine XS.aloadN X5.here hexec rfl (hb hbytes d33) rfl rfl ?_
    refine XS.iloadN X5.here hexec rfl (hb hbytes d34) rfl ?_
    refine XS.iloadN X5.here hexec rfl (hb hbytes d35) rfl ?_
    exact Steps.refl _)
  obtain ⟨v8, T8, X8, E8, g8⟩ := X5.callS hexec (Cmp3.law l b A o len) hown (wks W (staticW "java/lang/String" 177 Cmp3.yN)) (wk W Cmp3.tab) (W := 0) (Nat.le_of_ble_eq_true rfl) (Nat.le_of_ble_eq_true rfl) (Nat.le_refl _) (by show 0 + len ≤ len; omega) (g := (mkF m 36 #[.val (.ref a), .val (.ref b), .val (.int (Int32.ofNat o)), .val (.int (Int32.ofNat len)), .val .null, .unset] [.int (Int32.ofNat len), .int (Int32.ofNat o), .ref b])) rfl (by rw [hml]; rfl) c7 (argsL := [.ref b, .int (Int32.ofNat o), .int (Int32.ofNat len)]) (rest := []) rfl rfl (by show 2 * 0 + 0 ≤ _; decide) (hb hbytes d36) (⟨rfl, hA.mv X5.warmed.alike hh5, l1, l2, hp⟩)
  obtain ⟨e8, z8⟩ := E8
  obtain ⟨rfl, N, n1, n2, n3, n4, n5, n6⟩ := NewArr.mv _ T5 s _ _ hh5.symm (Vm.Alike.refl _) rfl e8
  rw [hh5] at z8
  have hB1 := hB.keep X8.warmed.alike (n6 _ _ hB.1)
  have hne : s.heap.size ≠ a := (Nat.ne_of_lt (Array.getElem?_eq_some_iff.mp hB.1).1).symm
  have c9 : Steps p.tables e below (s₁.setTop (entryFrame m #[.ref a, .ref b, .int (Int32.ofNat o), .int (Int32.ofNat len), .null] 6)) (T8.setTop (mkF m 39 #[.val (.ref a), .val (.ref b), .val (.int (Int32.ofNat o)), .val (.int (Int32.ofNat len)), .val .null, .unset] [.ref s.heap.size])) := g8
  have c10 : Steps p.tables e below (s₁.setTop (entryFrame m #[.ref a, .ref b, .int (Int32.ofNat o), .int (Int32.ofNat len), .null] 6)) (T8.setTop (mkF m 45 #[.val (.ref a), .val (.ref b), .val (.int (Int32.ofNat o)), .val (.int (Int32.ofNat len)), .val .null, .val (.ref s.heap.size)] [.int (Int32.ofNat N.slots.size), .ref s.heap.size, .ref a])) := by
    have hc : Steps p.tables e below (s₁.setTop (entryFrame m #[.ref a, .ref b, .int (Int32.ofNat o), .int (Int32.ofNat len), .null] 6)) (T8.setTop (mkF m 45 #[.val (.ref a), .val (.ref b), .val (.int (Int32.ofNat o)), .val (.int (Int32.ofNat len)), .val .null, .val (.ref s.heap.size)] [.int (Int32.ofNat len), .ref s.heap.size, .ref a])) := c9.trans (by
      refine XS.astore X8.here hexec rfl (hb hbytes d39) rfl rfl rfl ?_
      refine XS.aloadN X8.here hexec rfl (hb hbytes d41) rfl rfl ?_
      refine XS.aload X8.here hexec rfl (hb hbytes d42) rfl rfl ?_
      refine XS.iloadN X8.here hexec rfl (hb hbytes d44) rfl ?_
      exact Steps.refl _)
    rw [n4]; exact hc
  obtain ⟨v11, T11, X11, E11, g11⟩ := X8.callS hexec (CodL.law l s.heap.size N) hown (wks W (staticW "java/lang/String" 47 CodL.yN)) (wk W CodL.tab) (W := 1) (Nat.le_of_ble_eq_true rfl) (Nat.le_of_ble_eq_true rfl) (Nat.le_refl _) (by show 0 + len + 0 ≤ len; omega) (g := (mkF m 45 #[.val (.ref a), .val (.ref b), .val (.int (Int32.ofNat o)), .val (.int (Int32.ofNat len)), .val .null, .val (.ref s.heap.size)] [.int (Int32.ofNat N.slots.size), .ref s.heap.size, .ref a])) rfl (by rw [hml]; rfl) c10 (argsL := [.ref s.heap.size, .int (Int32.ofNat N.slots.size)]) (rest := [.ref a]) rfl rfl (by show 2 * 0 + (1 + 0) ≤ _; decide) (hb hbytes d45) (⟨rfl, n1⟩)
  obtain ⟨rfl, q11⟩ := E11
  have hB11 := hB1.mv (X8.warmed.alike.symm.trans X11.warmed.alike) q11
  have c12 : Steps p.tables e below (s₁.setTop (entryFrame m #[.ref a, .ref b, .int (Int32.ofNat o), .int (Int32.ofNat len), .null] 6)) (T11.setTop (mkF m 48 #[.val (.ref a), .val (.ref b), .val (.int (Int32.ofNat o)), .val (.int (Int32.ofNat len)), .val .null, .val (.ref s.heap.size)] [.int 0, .ref a])) := g11
  obtain ⟨T13, X13, p13, bl13, sl13, st13⟩ := X11.finit hexec hown (wk W (.fieldLink "java/lang/String" 15 "java/lang/String" "coder" "B")) (Or.inr ⟨_, (wk W (.laysFinal "java/lang/String" "java/lang/String" "coder" "B"))⟩) (Or.inl ⟨rfl, hnm⟩) f2 (Or.inl rfl) hB11 (t := .byte) (by decide +kernel) rfl (g := (mkF m 48 #[.val (.ref a), .val (.ref b), .val (.int (Int32.ofNat o)), .val (.int (Int32.ofNat len)), .val .null, .val (.ref s.heap.size)] [.int 0, .ref a])) rfl (rest := []) rfl (hb hbytes d48)
  have c14 : Steps p.tables e below (s₁.setTop (entryFrame m #[.ref a, .ref b, .int (Int32.ofNat o), .int (Int32.ofNat len), .null] 6)) (T13.setTop (mkF m 54 #[.val (.ref a), .val (.ref b), .val (.int (Int32.ofNat o)), .val (.int (Int32.ofNat len)), .val .null, .val (.ref s.heap.size)] [.ref s.heap.size, .ref a])) := (c12.trans (st13 _ (Steps.refl _))).trans (by
    refine XS.aloadN X13.here hexec rfl (hb hbytes d51) rfl rfl ?_
    refine XS.aload X13.here hexec rfl (hb hbytes d52) rfl rfl ?_
    exact Steps.refl _)
  obtain ⟨T15, X15, p15, bl15, sl15, st15⟩ := X13.finit hexec hown (wk W (.fieldLink "java/lang/String" 9 "java/lang/String" "value" "[B")) (Or.inr ⟨_, (wk W (.laysFinal "java/lang/String" "java/lang/String" "value" "[B"))⟩) (Or.inl ⟨rfl, hnm⟩) f1 (Or.inl rfl) bl13 (t := (.array .byte)) (by decide +kernel) rfl (g := (mkF m 54 #[.val (.ref a), .val (.ref b), .val (.int (Int32.ofNat o)), .val (.int (Int32.ofNat len)), .val .null, .val (.ref s.heap.size)] [.ref s.heap.size, .ref a])) rfl (rest := []) rfl (hb hbytes d54)
  have c16 : Steps p.tables e below (s₁.setTop (entryFrame m #[.ref a, .ref b, .int (Int32.ofNat o), .int (Int32.ofNat len), .null] 6)) (T15.setTop (mkF m 57 #[.val (.ref a), .val (.ref b), .val (.int (Int32.ofNat o)), .val (.int (Int32.ofNat len)), .val .null, .val (.ref s.heap.size)] [])) := c14.trans (st15 _ (Steps.refl _))
  have ap := apart (Or.inr ⟨_, (wk W (.laysFinal "java/lang/String" "java/lang/String" "value" "[B"))⟩) (Or.inr ⟨_, (wk W (.laysFinal "java/lang/String" "java/lang/String" "coder" "B"))⟩) f1 f2 (t₁ := .array .byte) (t₂ := .byte) (by decide +kernel) (by decide +kernel) (by decide)
  have al := X8.warmed.alike.symm.trans X15.warmed.alike
  have n7 : T11.heap[s.heap.size]? = some N := by rw [q11]; exact n1.1
  exact ⟨T15, none, _, _, _, X15, by simp, rfl, by omega, (fun _ => rfl), ⟨rfl, _, N, bl15, ((Same.refl D _).set _ (by simp)).set _ (by simp), sl15, (Cell.slots_setSlot_ne _ ap).trans sl13, n1.keep al (p15.other hne (p13.other hne n7)), n2, by rw [al.findClass]; exact n3, n4, n5, fun y c h1 h2 => p15.other h1 (p13.other h1 (by rw [q11]; exact n6 y c h2)), by rw [p15.2.2, p13.2.2, q11]; exact z8⟩, fun fs hl => c16.trans (X15.returnOut hexec hret (hb hbytes d57) hl)⟩
end New4
namespace New1
def yN : MethodName := ⟨"java/lang/String", "<init>", "([C)V"⟩
abbrev yB : ByteArray := jdk_42_method_3_code
theorem d0 : decode yB 0 = .ok (.aload_n 0, 1) := by decide +kernel
theorem d1 : decode yB 1 = .ok (.aload_n 1, 1) := by decide +kernel
theorem d2 : decode yB 2 = .ok (.iconst 0, 1) := by decide +kernel
theorem d3 : decode yB 3 = .ok (.aload_n 1, 1) := by decide +kernel
theorem d4 : decode yB 4 = .ok (.arraylength, 1) := by decide +kernel
theorem d5 : decode yB 5 = .ok (.aconst_null, 1) := by decide +kernel
theorem d6 : decode yB 6 = .ok (.invokespecial 27, 3) := by decide +kernel
theorem d9 : decode yB 9 = .ok (.return_, 1) := by decide +kernel
def site : List Cond := [New4.tab] ++ initW "java/lang/String" 27 New4.yN
def tab : Cond := tabOf yN yB 2 none site
def P (a : Addr) (D : Cell) (fV fC : Field) (b : Addr) (A : Cell) (z : Int32) (args : Array Value) (s : State) : Prop := args = #[.ref a, .ref b] ∧ Blank "java/lang/String" a D s ∧ Found "java/lang/String" "value" "[B" fV s ∧ Found "java/lang/String" "coder" "B" fC s ∧ Ch b A s ∧ StaticIs s "java/lang/String" "COMPACT_STRINGS" "Z" (.int z) ∧ ¬ z = 0 ∧ 0 < A.slots.size ∧ A.slots.size ≤ 536870912 ∧ ∀ i, i < A.slots.size → ¬ 255 < cv A i
def E (a : Addr) (D : Cell) (fV fC : Field) (A : Cell) (r : Option Value) (s u : State) : Prop := Got a D fV fC A 0 A.slots.size r s u
/-- new String(chars), not empty, no char above 255: a Latin-1 String of their low bytes -/
theorem law (l : Launch) (a : Addr) (D : Cell) (fV fC : Field) (b : Addr) (A : Cell) (z : Int32) : Law l yN 2 1 3 52 yB 2 none site (P a D fV fC b A z) (E a D fV fC A) [⟨a, fC.slot⟩, ⟨a, fV.slot⟩] 1 A.slots.size := by
  refine Law.of_walk (plainFor_of_name (by decide +kernel)) (by decide +kernel) (by decide +kernel) (by decide) (fun _ _ h => by rw [h.1]; rfl) (fun _ U U' hal hh h => ⟨h.1, h.2.1.mv hal hh, h.2.2.1.al hal, h.2.2.2.1.al hal, h.2.2.2.2.1.mv hal hh, h.2.2.2.2.2.1.there hal hh, h.2.2.2.2.2.2⟩) (fun r U U' V V' h1 hal h2 h => Got.mv r U U' V V' h1 hal h2 h) ?_
  intro p e s m args below meth c s₁ X0 hexec hbytes hml hret hlk hnm hown hh0 W hP
  obtain ⟨rfl, hB, f1, f2, hA, s1, hz, l0, l2, hp⟩ := hP
  have c1 : Steps p.tables e below (s₁.setTop (entryFrame m #[.ref a, .ref b] 2)) (s₁.setTop (mkF m 0 #[.val (.ref a), .val (.ref b)] [])) := entry rfl
  have c2 : Steps p.tables e below (s₁.setTop (entryFrame m #[.ref a, .ref b] 2)) (s₁.setTop (mkF m 6 #[.val (.ref a), .val (.ref b)] [.null, .int (Int32.ofNat A.slots.size), .int 0, .ref b, .ref a])) := c1.trans (by
    refine XS.aloadN X0.here hexec rfl (hb hbytes d0) rfl rfl ?_
    refine XS.aloadN X0.here hexec rfl (hb hbytes d1) rfl rfl ?_
    refine iconstV X0.here hexec rfl 0 (hb hbytes d2) (by decide) ?_
    refine XS.aloadN X0.here hexec rfl (hb hbytes d3) rfl rfl ?_
    refine X0.alen hexec (hA.1.mv X0.warmed.alike hh0) rfl rfl (hb hbytes d4) ?_
    refine XS.aconstNull X0.here hexec rfl (hb hbytes d5) ?_
    exact Steps.refl _)
  obtain ⟨v3, T3, X3, E3, g3⟩ := X0.callN hexec (New4.law l a D fV fC b A z 0 A.slots.size) rfl hown (wks W (initW "java/lang/String" 27 New4.yN)) (W New4.tab (by simp only [site, List.mem_cons, List.mem_append, true_or, or_true])) (W := 0) (Nat.le_of_ble_eq_true rfl) (Nat.le_of_ble_eq_true rfl) (Nat.le_refl _) (by show 0 + A.slots.size ≤ A.slots.size; omega) (g := (mkF m 6 #[.val (.ref a), .val (.ref b)] [.null, .int (Int32.ofNat A.slots.size), .int (Int32.ofNat 0), .ref b, .ref a])) rfl (by rw [hml]; rfl) c2 (argsL := [.ref b, .int (Int32.ofNat 0), .int (Int32.ofNat A.slots.size), .null]) (rest := []) rfl rfl (by show 2 * 0 + 0 ≤ _; decide) (hb hbytes d6) (⟨rfl, hB.mv X0.warmed.alike hh0, f1.al X0.warmed.alike, f2.al X0.warmed.alike, hA.mv X0.warmed.alike hh0, s1.there X0.warmed.alike hh0, hz, l0, by omega, l2, fun i hi => by rw [Nat.zero_add]; exact hp i hi⟩)
  have e0 := Got.mv _ s₁ s _ _ hh0.symm (Vm.Alike.refl _) rfl E3
  obtain rfl := e0.1
  have c4 : Steps p.tables e below (s₁.setTop (entryFrame m #[.ref a, .ref b] 2)) (T3.setTop (mkF m 9 #[.val (.ref a), .val (.ref b)] [])) := g3
  exact ⟨T3, none, _, _, _, X3, by simp, rfl, by omega, (fun _ => rfl), e0, fun fs hl => c4.trans (X3.returnOut hexec hret (hb hbytes d9) hl)⟩
theorem pays {l : Launch} {R : Room} {p : Program} {e : Env} {below : List Frame} {s : State} {sargs : Array Value} {len W : Nat} (a : Addr) (D : Cell) (fV fC : Field) (b : Addr) (A : Cell) (z : Int32) (htab : tab.before sargs s = true) (hfr : 4 ≤ R.frames) (hlo : W + 65 ≤ R.locals) :
    Back l R p e below s sargs yN len W (fun A₁ a₁ => A₁.cells + 1 ≤ R.cells ∧ A₁.slots + A.slots.size ≤ R.slots ∧ P a D fV fC b A z a₁ A₁.U) (fun A₁ _ v₁ B₁ => E a D fV fC A v₁ A₁.U B₁.U ∧ B₁.locs = A₁.locs ++ [⟨a, fC.slot⟩, ⟨a, fV.slot⟩] ∧ B₁.cells = A₁.cells + 1 ∧ B₁.slots = A₁.slots + A.slots.size) :=
  (law l a D fV fC b A z).pays htab hfr (by omega)
end New1
end StrChars
namespace StrChars.Road
open Jvm Sem ClassFile Op Lib Jvm.Stand Jvm.Free Jvm.Free.XT
open Jvm.Lib.Cold (StaticIs)
abbrev ST : String := "java/lang/String"
/-- every table word that New1's law asks, flat -/
abbrev words : List Jvm.Cond := [.code New1.yN New1.yB 2 none, .initialized ST, .methodLink ST 27 New4.yN, .instanceMethod New4.yN,
  .code New4.yN New4.yB 6 none, .fieldLink ST 38 ST "COMPACT_STRINGS" "Z", .laysFinal ST ST "value" "[B", .fieldLink ST 9 ST "value" "[B", .laysFinal ST ST "coder" "B", .fieldLink ST 15 ST "coder" "B",
  .methodLink ST 1 Lib.objectInit, .instanceMethod Lib.objectInit, .code Lib.objectInit ⟨#[0xb1]⟩ 1 none, .methodLink ST 177 Cmp3.yN, .static Cmp3.yN, .methodLink ST 47 CodL.yN, .static CodL.yN,
  .code Cmp3.yN Cmp3.yB 6 (some (.array .byte)), .initialized U16, .arrayClass .byte, .methodLink U16 115 Cmp5.yN, .static Cmp5.yN, .code Cmp5.yN Cmp5.yB 7 (some .int), .code CodL.yN CodL.yB 2 (some .byte)]
theorem tab_of {a : Array Value} {s : State} (h : ∀ w ∈ words, w.before a s = true) : New1.tab.before a s = true := by
  have h5 : Cmp5.tab.before a s = true := unparts (wk h (.code Cmp5.yN Cmp5.yB 7 (some .int))) (wks h (.initialized Cmp5.yN.cls :: Cmp5.site))
  have hc : CodL.tab.before a s = true := unparts (wk h (.code CodL.yN CodL.yB 2 (some .byte))) (wks h (.initialized CodL.yN.cls :: CodL.site))
  have q5 : ∀ w ∈ Cmp5.tab :: words, w.before a s = true := fun w hw => (List.mem_cons.mp hw).elim (fun e => e ▸ h5) (h w)
  have h3 : Cmp3.tab.before a s = true := unparts (wk q5 (.code Cmp3.yN Cmp3.yB 6 (some (.array .byte)))) (wks q5 (.initialized Cmp3.yN.cls :: Cmp3.site))
  have q3 : ∀ w ∈ Cmp3.tab :: CodL.tab :: words, w.before a s = true := fun w hw => (List.mem_cons.mp hw).elim (fun e => e ▸ h3) fun hw => (List.mem_cons.mp hw).elim (fun e => e ▸ hc) (h w)
  have h4 : New4.tab.before a s = true := unparts (wk q3 (.code New4.yN New4.yB 6 none)) (wks q3 (.initialized New4.yN.cls :: New4.site))
  have q4 : ∀ w ∈ New4.tab :: words, w.before a s = true := fun w hw => (List.mem_cons.mp hw).elim (fun e => e ▸ h4) (h w)
  exact unparts (wk q4 (.code New1.yN New1.yB 2 none)) (wks q4 (.initialized New1.yN.cls :: New1.site))
/-- the words ride from the start Z to the walk's own state -/
theorem moved {Z s : State} {a0 args : Array Value} (hZ : Z.Warmed39 s.vm) (hw : ∀ d ∈ words, d.before a0 Z = true) : ∀ d ∈ words, d.before args s = true := fun d hd => by
  have q := hw d hd
  have t : ∀ d ∈ words, d = .arrayClass .byte ∨ (d.onTables && d.keepsFace) = true := by decide +kernel
  rcases t d hd with rfl | t
  · exact RoadKit.mvA hZ q
  · exact RoadKit.mv hZ q t
/-- WHAT COMES BACK, over the tables of the start Z: h the heap at the call, h' behind it -/
def Q (Z : State) (x : Addr) (A : Cell) (h : Heap) (v : Option Value) (h' : Heap) (L : List Loc) : Prop := v = none ∧ (∀ y ∈ L, y.base = x) ∧ RoadKit.Keep h h' [x] ∧ h'.size = h.size + 1 ∧ RoadKit.Exa Z h' x ST ∧ RoadKit.Fld Z h' x ST "value" "[B" (.ref h.size) ∧ RoadKit.Fld Z h' x ST "coder" "B" (.int 0) ∧
  (∃ V : Cell, RoadKit.Arr Z h' h.size V .byte ∧ V.vm = .none ∧ Z.vm.findClass "[B" = some V.cls ∧ V.slots.size = A.slots.size ∧ ∀ j, j < A.slots.size → V.slots[j]? = some (.int (lo8 (cv A j)))) ∧
  ∀ (O n d : String) (w : Value), RoadKit.Fld Z h x O n d w → RoadKit.slotOf Z O n d ≠ RoadKit.slotOf Z ST "value" "[B" → RoadKit.slotOf Z O n d ≠ RoadKit.slotOf Z ST "coder" "B" → RoadKit.Fld Z h' x O n d w
/-- **new String(chars) AT A CALL, IN THE ROAD'S FORM**: for specialBack behind newO: x the fresh String, b the char[] with the cell A -/
theorem back {p : Program} {l : Launch} {e : Env} {R : Room} {s : State} {args : Array Value} {below : List Frame} {len W : Nat} {Z : State} {a0 : Array Value} {h : Heap} (hZ : Z.Warmed39 s.vm) (hw : ∀ d ∈ words, d.before a0 Z = true) {kI : Nat} (wi : (Jvm.Cond.instantiable ST kI).before a0 Z = true)
    {x b : Addr} {A : Cell} {z : Int32} {v0 c0 : Value} (E : RoadKit.Exa Z h x ST) (V : RoadKit.Fld Z h x ST "value" "[B" v0) (C : RoadKit.Fld Z h x ST "coder" "B" c0) (K : RoadKit.Arr Z h b A .char) (hty : Typed .char A) (S : RoadKit.Sta Z h ST "COMPACT_STRINGS" "Z" (.int z)) (hz : ¬ z = 0)
    (l0 : 0 < A.slots.size) (l2 : A.slots.size ≤ 536870912) (hp : ∀ i, i < A.slots.size → ¬ 255 < cv A i) (hfr : 4 ≤ R.frames) (hlo : W + 65 ≤ R.locals) :
    Back l R p e below s args New1.yN len W (fun P a => a = #[.ref x, .ref b] ∧ P.U.heap = h ∧ P.cells + 1 ≤ R.cells ∧ P.slots + A.slots.size ≤ R.slots)
      (fun P _ v B => ∃ L, Q Z x A h v B.U.heap L ∧ B.locs = P.locs ++ L ∧ B.cells = P.cells + 1 ∧ B.slots = P.slots + A.slots.size) := by
  intro m meth c P g ig mk a X hg hsize hdg hW hn hp'
  obtain ⟨rfl, rfl, r1, r2⟩ := hp'
  have al : Z.vm.Alike P.U.vm := hZ.alike.trans X.warmed.alike
  obtain ⟨D, cfV, kV, iV, fV, hD, gV, stV, knV, obV, asV, slV⟩ := id V
  obtain ⟨D', cfC, kC, iC, fC, hD', gC, stC, -, -, asC, slC⟩ := id C
  cases hD.symm.trans hD'
  obtain ⟨D2, kD, e1, e2, e3, e4, e5⟩ := id E
  cases hD.symm.trans e1
  obtain ⟨c2, k2, i1, i2, i3, -⟩ := Cond.instantiable_spec wi
  cases e2.symm.trans i1
  cases e3.symm.trans i2
  obtain ⟨kU, u1, u2⟩ := al.2.2 _ _ e3
  have hB : Blank ST x D P.U := ⟨hD, ⟨knV, fun q hq => by rw [hq] at obV; cases obV⟩, by rw [al.findClass]; exact e2, kU, u1, by rw [u2]; exact i3, by rw [u2]; exact e5 i3⟩
  have F1 : Found ST "value" "[B" fV P.U := ⟨SBG.found_only al ⟨cfV, kV, iV, gV⟩, stV⟩
  have F2 : Found ST "coder" "B" fC P.U := ⟨SBG.found_only al ⟨cfC, kC, iC, gC⟩, stC⟩
  have hA : Ch b A P.U := ⟨⟨K.1, State.isArrayOf_alike al K.2.1, K.2.2, by omega⟩, hty⟩
  have hS : StaticIs P.U ST "COMPACT_STRINGS" "Z" (.int z) := by
    obtain ⟨cfS, iS, kS, fS, st, cS, t1, t2, t3, t4, t5, t6, t7⟩ := S
    exact StaticIs.there (s := { Z with heap := P.U.heap }) ⟨cfS, iS, kS, fS, st, cS, t1, t2, t3, t4, t5, (fun q => by rw [q] at t6; cases t6), t7⟩ al rfl
  obtain ⟨v, B, X', ⟨⟨hv, E', V', q1, q2, q3, q4, q5, q6, q7, q8, q9, q10, q11⟩, hl, hc, hs⟩, st⟩ := New1.pays x D fV fC b A z (tab_of (moved hZ hw)) hfr hlo m meth c P g ig mk _ X hg hsize hdg hW hn ⟨r1, r2, rfl, hB, F1, F2, hA, hS, hz, l0, l2, hp⟩
  have al' : Z.vm.Alike B.U.vm := hZ.alike.trans X'.warmed.alike
  have hsz : E'.slots.size = D.slots.size := by
    obtain ⟨-, -, -, kB, w1, w2, w3⟩ := q1
    obtain ⟨kB', y1, y2⟩ := al'.2.2 _ _ e3
    rw [q2.2.1] at w1
    cases w1.symm.trans y1
    rw [w3, e5 i3, y2]
  refine ⟨v, B, X', ⟨_, ⟨hv, ?_, ⟨by omega, fun y cy hy hn' => q10 y cy (by simpa using hn') hy, fun y cy hy => ?_⟩, q11, ⟨E', _, q1.1, by rw [q2.2.1]; exact e2, by rw [q2.2.1]; exact e3, by rw [q2.1]; exact obV, fun _ => by rw [hsz]; exact e5 i3⟩,
    ⟨E', cfV, kV, iV, fV, q1.1, gV, stV, by rw [q2.1]; exact knV, by rw [q2.1]; exact obV, by rw [q2.2.1]; exact asV, q3⟩, ⟨E', cfC, kC, iC, fC, q1.1, gC, stC, by rw [q2.1]; exact knV, by rw [q2.1]; exact obV, by rw [q2.2.1]; exact asC, q4⟩,
    ⟨V', ⟨q5.1, State.isArrayOf_alike al'.symm q5.2.1, q5.2.2.1⟩, q6, by rw [← al'.findClass]; exact q7, q8, fun j hj => by have := q9 j hj; rwa [Nat.zero_add] at this⟩, fun O n d w F n1 n2 => ?_⟩, hl, hc, hs⟩, st⟩
  · intro y hy
    simp only [List.mem_cons, List.not_mem_nil, or_false] at hy
    rcases hy with rfl | rfl <;> rfl
  · by_cases q : y = x
    · subst q
      cases hD.symm.trans hy
      exact ⟨E', q1.1, q2.2.1, q2.1, hsz⟩
    · exact ⟨cy, q10 y cy q hy, rfl, rfl, rfl⟩
  · obtain ⟨D3, cf, k, i, f, g1, g2, g3, g4, g5, g6, g7⟩ := F
    cases hD.symm.trans g1
    simp only [RoadKit.slotOf, g2, gV, gC, Option.map_some, Option.getD_some] at n1 n2
    exact ⟨E', cf, k, i, f, q1.1, g2, g3, by rw [q2.1]; exact g4, by rw [q2.1]; exact g5, by rw [q2.2.1]; exact g6, by rw [q2.2.2 f.slot (by simp [n1, n2])]; exact g7⟩
end StrChars.Road
namespace StrChars.Road
open Jvm Sem ClassFile Op Lib Jvm.Stand Jvm.Free Jvm.Free.XT
/-- WHAT COMES BACK, the byte[] as a list of values -/
def QA (Z : State) (x : Addr) (zn : Int32) (cs : List Int32) (h : Heap) (v : Option Value) (h' : Heap) (L : List Loc) : Prop := v = none ∧ (∀ y ∈ L, y.base = x) ∧ RoadKit.Keep h h' [x] ∧ h'.size = h.size + 1 ∧ RoadKit.Exa Z h' x ST ∧ RoadKit.Fld Z h' x ST "value" "[B" (.ref h.size) ∧ RoadKit.Fld Z h' x ST "coder" "B" (.int 0) ∧
  (∃ kb, Z.vm.findClass "[B" = some kb ∧ RoadKit.Arv Z h' h.size kb .byte zn (cs.map fun c => .int (lo8 c)) (.int 0)) ∧
  ∀ (O n d : String) (w : Value), RoadKit.Fld Z h x O n d w → RoadKit.slotOf Z O n d ≠ RoadKit.slotOf Z ST "value" "[B" → RoadKit.slotOf Z O n d ≠ RoadKit.slotOf Z ST "coder" "B" → RoadKit.Fld Z h' x O n d w
/-- **new String(chars) AT A CALL, THE ARRAYS AS LISTS**: the char[] at b holds cs, not empty, no char above 255 -/
theorem backArv {p : Program} {l : Launch} {e : Env} {R : Room} {s : State} {args : Array Value} {below : List Frame} {len W : Nat} {Z : State} {a0 : Array Value} {h : Heap} (hZ : Z.Warmed39 s.vm) (hw : ∀ d ∈ words, d.before a0 Z = true) {kI : Nat} (wi : (Jvm.Cond.instantiable ST kI).before a0 Z = true)
    {x b : Addr} {k : ClassId} {zn z : Int32} {cs : List Int32} {dv v0 c0 : Value} (E : RoadKit.Exa Z h x ST) (V : RoadKit.Fld Z h x ST "value" "[B" v0) (C : RoadKit.Fld Z h x ST "coder" "B" c0) (K : RoadKit.Arv Z h b k .char zn (cs.map Value.int) dv) (S : RoadKit.Sta Z h ST "COMPACT_STRINGS" "Z" (.int z)) (hz : ¬ z = 0)
    (hlen : zn.toNatClampNeg = cs.length) (h0 : 0 < cs.length) (hbig : cs.length ≤ 536870912) (hall : ∀ c ∈ cs, ¬ 255 < c) (hfr : 4 ≤ R.frames) (hlo : W + 65 ≤ R.locals) :
    Back l R p e below s args New1.yN len W (fun P a => a = #[.ref x, .ref b] ∧ P.U.heap = h ∧ P.cells + 1 ≤ R.cells ∧ P.slots + cs.length ≤ R.slots)
      (fun P _ v B => ∃ L, QA Z x zn cs h v B.U.heap L ∧ B.locs = P.locs ++ L ∧ B.cells = P.cells + 1 ∧ B.slots = P.slots + cs.length) := by
  obtain ⟨A, K1, K2, K3, K4, K5, K6⟩ := K
  have e : A.slots.size = cs.length := K3.trans hlen
  have hat : ∀ (i : Nat) (hi : i < cs.length), A.slots[i]? = some (.int cs[i]) := fun i hi => by rw [K5 i (by omega)]; simp [List.getD_eq_getElem?_getD, hi]
  have hcv : ∀ (i : Nat) (hi : i < cs.length), cv A i = cs[i] := fun i hi => by unfold cv; rw [hat i hi]
  have hty : Typed .char A := fun i v hv => by
    have hi : i < A.slots.size := (Array.getElem?_eq_some_iff.mp hv).1
    have q := K5 i hi
    rw [hv] at q
    rw [Option.some.inj q]
    exact K6 i hi
  refine Back.mono (back hZ hw wi E V C K1 hty S hz (by omega) (by omega) (fun i hi => by rw [hcv i (by omega)]; exact hall _ (List.getElem_mem _)) hfr hlo) (fun P a hp => ⟨hp.1, hp.2.1, hp.2.2.1, by rw [e]; exact hp.2.2.2⟩) (fun P a v B hp hq => ?_)
  obtain ⟨L, ⟨q1, q2, q3, q4, q5, q6, q7, ⟨V', v1, v2, v3, v4, v5⟩, q9⟩, hl, hc, hs⟩ := hq
  refine ⟨L, ⟨q1, q2, q3, q4, q5, q6, q7, ⟨V'.cls, v3, V', v1, rfl, by rw [v4, e, hlen], K4, fun i hi => ?_, fun i hi => ?_⟩, q9⟩, hl, hc, by rw [hs, e]⟩
  · have hi' : i < cs.length := by omega
    rw [v5 i (by omega), hcv i hi']; simp [List.getD_eq_getElem?_getD, hi']
  · have hi' : i < cs.length := by omega
    simp only [List.getD_eq_getElem?_getD, List.getElem?_map, List.getElem?_eq_getElem hi', Option.map_some, Option.getD_some]
    exact fits_lo8 _
end StrChars.Road
namespace StrChars.Road
open Jvm Sem ClassFile Op Lib Jvm.Stand Jvm.Free Jvm.Free.XT
/-- WHAT COMES BACK, in the writer's own shape -/
def QV (Z : State) (x : Addr) (N : Int32) (bs : List Int32) (h : Heap) (n0 : Nat) (v : Option Value) (h' : Heap) (L : List Loc) : Prop := v = none ∧ RoadKit.Fr n0 L ∧ RoadKit.Keep h h' [x] ∧ RoadKit.Exa Z h' x ST ∧ RoadKit.Fld Z h' x ST "coder" "B" (.int 0) ∧
  ∃ (t : Addr) (kb : ClassId), n0 ≤ t ∧ h.size ≤ t ∧ ¬ t = x ∧ RoadKit.Fld Z h' x ST "value" "[B" (.ref t) ∧ RoadKit.Arv Z h' t kb .byte N (bs.map Value.int) (.int 0)
/-- **new String(chars) AT A CALL, FOR THE WRITER**: a char[] of n known ints, each 0 to 255 -/
theorem backV {p : Program} {l : Launch} {e : Env} {R : Room} {s : State} {args : Array Value} {below : List Frame} {len W : Nat} {Z : State} {a0 : Array Value} {h : Heap} (hZ : Z.Warmed39 s.vm) (hw : ∀ d ∈ words, d.before a0 Z = true) {kI : Nat} (wi : (Jvm.Cond.instantiable ST kI).before a0 Z = true)
    {x b : Addr} {kC : ClassId} {cs bs : List Int32} {d v0 c0 : Value} {z N : Int32} {n n0 : Nat} (hx0 : n0 ≤ x) (hh0 : n0 ≤ h.size) (E : RoadKit.Exa Z h x ST) (V : RoadKit.Fld Z h x ST "value" "[B" v0) (C : RoadKit.Fld Z h x ST "coder" "B" c0) (K : RoadKit.Arv Z h b kC .char N (cs.map Value.int) d) (S : RoadKit.Sta Z h ST "COMPACT_STRINGS" "Z" (.int z)) (hz : ¬ z = 0)
    (hn : cs.length = n) (hN : N = Int32.ofNat n) (l0 : 0 < n) (l2 : n ≤ 4000) (hp : ∀ c ∈ cs, ¬ c < 0 ∧ ¬ (255 : Int32) < c) (hb : bs = cs.map (fun c => c.toInt8.toInt32)) (hfr : 4 ≤ R.frames) (hlo : W + 65 ≤ R.locals) :
    Back l R p e below s args (⟨"java/lang/String", "<init>", "([C)V"⟩ : MethodName) len W (fun P a => a = #[.ref x, .ref b] ∧ P.U.heap = h ∧ P.cells + 1 ≤ R.cells ∧ P.slots + n ≤ R.slots)
      (fun P _ v B => ∃ L, QV Z x N bs h n0 v B.U.heap L ∧ B.locs = P.locs ++ L ∧ B.cells = P.cells + 1 ∧ B.slots = P.slots + n) := by
  subst hn hN hb
  refine Back.mono (backArv hZ hw wi E V C K S hz (n32 (by omega)) l0 (by omega) (fun c hc => (hp c hc).2) hfr hlo) (fun P a hp => hp) (fun P a v B hp hq => ?_)
  obtain ⟨L, ⟨q1, q2, q3, q4, q5, q6, q7, ⟨kb, v1, v2⟩, q9⟩, hl, hc, hs⟩ := hq
  exact ⟨L, ⟨q1, fun y hy => by rw [q2 y hy]; exact hx0, q3, q5, q7, h.size, kb, hh0, Nat.le_refl _, Nat.ne_of_gt E.lt, q6, by rw [List.map_map]; exact v2⟩, hl, hc, hs⟩
end StrChars.Road
end Jvm.Pilot.@@N@@

namespace Jvm.Pilot.@@N@@
open Jvm Jvm.ClassFile Sem Op Lib Jvm.Free Jvm.Stand Jvm.LawKit Jvm.RoadKit Bundle Jvm.Pilot.@@N@@.Jvm.D
/-- the run from U comes to a return whose value, heap and written places Q takes; it has made at most kc cells of ks slots -/
def own_Go (p : Program) (e : Env) (below : List Frame) (s : State) (Q : Option Value → Heap → List Loc → Prop) (kc ks : Nat) (U : State) : Prop :=
  ∃ t o, Steps p.tables e below U t ∧ t.status = .running ∧ Ended t below o ∧ ∃ v L, o = .returned v ∧ Q v t.heap L ∧ FrameEnd s o t L kc ks
section OwnKit
variable {p : Program} {l : Launch} {e : Env} {R : Room} {s : State} {m : MethodId} {args : Array Value} {below : List Frame} {meth : Method} {c : Code} {T : State} {locs : List Loc} {cells slots kc ks : Nat} {Z : State} {a0 : Array Value} {h : Heap} {Q : Option Value → Heap → List Loc → Prop}
theorem own_go {U U' : State} (f : ∀ t, Steps p.tables e below U' t → Steps p.tables e below U t) (g : own_Go p e below s Q kc ks U') : own_Go p e below s Q kc ks U := by
  obtain ⟨t, o, a, r⟩ := g
  exact ⟨t, o, f t a, r⟩
theorem own_end (X : Stand p l e R s m args below meth c T locs cells slots) (hlk : meth.locks = false) (eT : T.heap = h) {v : Option Value} (hv : meth.sig.returnType = none → v = none) (hc : cells ≤ kc) (hs : slots ≤ ks) (hq : Q v h locs) {U : State}
    (hst : ∀ fs, (∀ (f : JFrame) (acts : List Action), f.method = m → f.locked = none → f.entered = [] → (doReturn e (T.setTop f) acts v).1 = T.setFrames fs) → Steps p.tables e below U (T.setFrames fs)) : own_Go p e below s Q kc ks U := by
  obtain ⟨fs, hr, hrun, hended, hW, hsame⟩ := X.leave (v := v) hv hlk
  refine ⟨_, _, hst fs hr, hrun, hended, v, locs, rfl, ?_, ⟨v, rfl⟩, hW, hsame.mono hc hs⟩
  show Q v T.heap locs
  rw [eT]; exact hq
theorem own_retN (X : Stand p l e R s m args below meth c T locs cells slots) (hx : p.tables.exec = Jvm.exec) (hlk : meth.locks = false) (eT : T.heap = h) {pc : Nat} {Ls : Array Slot} {z : Int32} {t : FieldType} {rest : List Value} (hret : meth.sig.returnType = some t) (ht : t = .boolean ∨ t = .byte ∨ t = .char ∨ t = .short)
    (hd : decode c.code pc = .ok (.ireturn, 1)) (hc : cells ≤ kc) (hs : slots ≤ ks) (hq : Q (some (.int (nar t z))) h locs) : own_Go p e below s Q kc ks (T.setTop (mkF m pc Ls (.int z :: rest))) :=
  own_end X hlk eT (fun q => by rw [hret] at q; cases q) hc hs hq fun fs hr => retN X hx hret ht hd hr
theorem own_retI (X : Stand p l e R s m args below meth c T locs cells slots) (hx : p.tables.exec = Jvm.exec) (hlk : meth.locks = false) (eT : T.heap = h) {pc : Nat} {Ls : Array Slot} {z : Int32} {rest : List Value} (hret : meth.sig.returnType = some .int)
    (hd : decode c.code pc = .ok (.ireturn, 1)) (hc : cells ≤ kc) (hs : slots ≤ ks) (hq : Q (some (.int z)) h locs) : own_Go p e below s Q kc ks (T.setTop (mkF m pc Ls (.int z :: rest))) :=
  own_end X hlk eT (fun q => by rw [hret] at q; cases q) hc hs hq fun fs hr => retOut X hx hret rfl (Or.inl ⟨rfl, Or.inl rfl, z, rfl⟩) hd hr
theorem own_retJ (X : Stand p l e R s m args below meth c T locs cells slots) (hx : p.tables.exec = Jvm.exec) (hlk : meth.locks = false) (eT : T.heap = h) {pc : Nat} {Ls : Array Slot} {z : Int64} {rest : List Value} (hret : meth.sig.returnType = some .long)
    (hd : decode c.code pc = .ok (.lreturn, 1)) (hc : cells ≤ kc) (hs : slots ≤ ks) (hq : Q (some (.long z)) h locs) : own_Go p e below s Q kc ks (T.setTop (mkF m pc Ls (.long z :: rest))) :=
  own_end X hlk eT (fun q => by rw [hret] at q; cases q) hc hs hq fun fs hr => retOut X hx hret rfl (Or.inr (Or.inl ⟨rfl, rfl, z, rfl⟩)) hd hr
theorem own_retA (X : Stand p l e R s m args below meth c T locs cells slots) (hx : p.tables.exec = Jvm.exec) (hlk : meth.locks = false) (eT : T.heap = h) {pc : Nat} {Ls : Array Slot} {v : Value} {t : FieldType} {rest : List Value} (hret : meth.sig.returnType = some t) (ht : t.isReference = true) (hv : v.isRef = true)
    (hd : decode c.code pc = .ok (.areturn, 1)) (hc : cells ≤ kc) (hs : slots ≤ ks) (hq : Q (some v) h locs) : own_Go p e below s Q kc ks (T.setTop (mkF m pc Ls (v :: rest))) :=
  own_end X hlk eT (fun q => by rw [hret] at q; cases q) hc hs hq fun fs hr => retOut X hx hret (by cases t <;> first | (cases ht; done) | (rcases ref_cases hv with rfl | ⟨_, rfl⟩ <;> rfl)) (Or.inr (Or.inr (Or.inr (Or.inr ⟨rfl, ht, hv⟩)))) hd hr
theorem own_retV (X : Stand p l e R s m args below meth c T locs cells slots) (hx : p.tables.exec = Jvm.exec) (hlk : meth.locks = false) (eT : T.heap = h) {pc : Nat} {Ls : Array Slot} (hret : meth.sig.returnType = none)
    (hd : decode c.code pc = .ok (.return_, 1)) (hc : cells ≤ kc) (hs : slots ≤ ks) (hq : Q none h locs) : own_Go p e below s Q kc ks (T.setTop (mkF m pc Ls [])) :=
  own_end X hlk eT (fun _ => rfl) hc hs hq fun fs hr => X.returnOut hx hret hd hr
/-- a body's contract out of its walk -/
theorem own_met {y : MethodName} {bytes : ByteArray} {maxL : Nat} {ret : Option FieldType} {ws : List Jvm.Cond} {rm : Room} {as' : Array Value} (kc ks : Nat) (hpl : plainFor y = true)
    (body : ∀ (p : Program) (e : Env) (s : State) (m : MethodId) (below : List Frame) (meth : Method) (c : Code) (T : State), Stand p l e rm s m as' below meth c T [] 0 0 → p.tables.exec = Jvm.exec → c.code = bytes → c.maxLocals = maxL → meth.sig.returnType = ret → meth.locks = false → Z.Warmed39 s.vm → s.vm.findClass y.cls = some m.cls → meth.name = y.name → T.heap = h →
      own_Go p e below s Q kc ks (T.setTop (entryFrame m as' maxL))) :
    MetFree l y (head1 (Jvm.Cond.code y bytes maxL ret :: ws) rm) (fun a U => a = as' ∧ Z.Warmed39 U.vm ∧ U.heap = h) (fun _ _ _ _ _ => True) (fun _ U o U' => ∃ v L, o = .returned v ∧ Q v U'.heap L ∧ FrameEnd U o U' L kc ks) := by
  refine MetFree.of_bodySF hpl hisR ?_
  intro p e s m args below meth c s₁ Bd hml hP hK
  obtain ⟨rfl, hZ, hh⟩ := hP
  obtain ⟨t, o, h1, h2, h3, h4⟩ := body p e s m below meth c s₁ (Stand.of_body Bd) Bd.exec Bd.bytes hml Bd.returns Bd.notSynchronized hZ (findClass_of_methodNamed Bd.named) (name_of_methodNamed Bd.named Bd.method).1 (by rw [← hh, Bd.state]; rfl)
  exact ⟨t, o, h1, h2, h3, h4⟩
abbrev own_Met (l : Launch) (Z : State) (h : Heap) (y : MethodName) (bytes : ByteArray) (maxL : Nat) (ret : Option FieldType) (rm : Room) (as' : Array Value) (Q : Option Value → Heap → List Loc → Prop) : Prop :=
  MetFree l y (head1 [Jvm.Cond.code y bytes maxL ret] rm) (fun a U => a = as' ∧ Z.Warmed39 U.vm ∧ U.heap = h) (fun _ _ _ _ _ => True) (fun _ U o U' => ∃ v L, o = .returned v ∧ Q v U'.heap L ∧ FrameEnd U o U' L rm.cells rm.slots)
abbrev own_MF (l : Launch) (Z : State) (h : Heap) (y : MethodName) (bytes : ByteArray) (maxL : Nat) (ret : Option FieldType) (rm : Room) (as' : Array Value) (Q : Option Value → Heap → List Loc → Prop) (ws : List Jvm.Cond) : Prop :=
  MetFree l y (head1 (Jvm.Cond.code y bytes maxL ret :: ws) rm) (fun a U => a = as' ∧ Z.Warmed39 U.vm ∧ U.heap = h) (fun _ _ _ _ _ => True) (fun _ U o U' => ∃ v L, o = .returned v ∧ Q v U'.heap L ∧ FrameEnd U o U' L rm.cells rm.slots)
theorem own_callS {y : MethodName} {bytes : ByteArray} {maxL : Nat} {ret : Option FieldType} {rm : Room} {as' : Array Value} {own : String} {index : Nat} (X : Stand p l e R s m args below meth c T locs cells slots) (hx : p.tables.exec = Jvm.exec) (hZ : Z.Warmed39 s.vm) (hown : s.vm.findClass own = some m.cls)
    (w1 : (Jvm.Cond.methodLink own index y).before a0 Z = true) (w2 : (Jvm.Cond.static y).before a0 Z = true) (w3 : (Jvm.Cond.initialized y.cls).before a0 Z = true) (w4 : (Jvm.Cond.code y bytes maxL ret).before a0 Z = true) (hM : own_Met l Z h y bytes maxL ret rm as' Q) (W : Nat) (nc ns : Nat) 
    (hc : cells + nc ≤ R.cells) (hs : slots + ns ≤ R.slots) (eT : T.heap = h) {g : JFrame} (hg : g.method = m) (hsize : g.locals.size = c.maxLocals)
    (argsL rest : List Value) (hlen : ∀ sig, parseMethodDescriptor y.desc = some sig → argsL.length = sig.parameters.length) (hstack : g.stack = argsL.reverse ++ rest) (has : argsL.toArray = as') (hdg : decode c.code g.pc = .ok (.invokestatic index, 3))
    (hy : y.cls ≠ "java/lang/invoke/MethodHandle" ∧ y.cls ≠ "java/lang/invoke/VarHandle" := by decide) (hf : rm.frames + 1 ≤ R.frames := by decide) (hl : W + (maxL + 11) + rm.locals ≤ R.locals := by decide) (hW : 2 * g.monitorRoom + (rest.map fun v => v.category).sum ≤ W := by exact Nat.le_of_eq rfl) (hnc : rm.cells = nc := by rfl) (hns : rm.slots = ns := by rfl) :
    ∃ v T' L, Stand p l e R s m args below meth c T' (locs ++ L) (cells + nc) (slots + ns) ∧ Q v T'.heap L ∧ ∀ target, Steps p.tables e below (T'.setTop { g with pc := g.pc + 3, stack := v.toList ++ rest }) target → Steps p.tables e below (T.setTop g) target := by
  subst hnc hns
  obtain ⟨v, _, ⟨T', L', k', n'⟩, -, X', ⟨L, hQ, h1, h2, h3⟩, st⟩ := Jvm.LawKit.callS X hx hown (mvT hZ w1) (mvT hZ w2) (mvT hZ w3) (mvT hZ w4) hy (backOf (W := W) hM hZ w4 w3 hf hl) hg hsize hlen hstack hW hdg (fun _ _ => ⟨has, eT, hc, hs⟩)
  dsimp only [Pt.U, Pt.locs, Pt.cells, Pt.slots] at X' hQ h1 h2 h3 st
  subst h1 h2 h3
  exact ⟨v, T', L, X', hQ, st⟩
theorem own_callI {y : MethodName} {bytes : ByteArray} {maxL : Nat} {rm : Room} {as' : Array Value} {own : String} {index : Nat} (X : Stand p l e R s m args below meth c T locs cells slots) (hx : p.tables.exec = Jvm.exec) (hZ : Z.Warmed39 s.vm) (hown : s.vm.findClass own = some m.cls)
    (w1 : (Jvm.Cond.methodLink own index y).before a0 Z = true) (w2 : (Jvm.Cond.instanceMethod y).before a0 Z = true) (w3 : (Jvm.Cond.initialized y.cls).before a0 Z = true) (w4 : (Jvm.Cond.code y bytes maxL none).before a0 Z = true) (hM : own_Met l Z h y bytes maxL none rm as' Q) (W : Nat) (nc ns : Nat) (hy1 : y.name = "<init>")
    (hc : cells + nc ≤ R.cells) (hs : slots + ns ≤ R.slots) (eT : T.heap = h) {g : JFrame} (hg : g.method = m) (hsize : g.locals.size = c.maxLocals)
    (a : Addr) (argsL rest : List Value) (hlen : ∀ sig, parseMethodDescriptor y.desc = some sig → argsL.length = sig.parameters.length) (hstack : g.stack = argsL.reverse ++ .ref a :: rest) (has : (Value.ref a :: argsL).toArray = as') (hdg : decode c.code g.pc = .ok (.invokespecial index, 3))
    (hy : y.cls ≠ "java/lang/invoke/MethodHandle" ∧ y.cls ≠ "java/lang/invoke/VarHandle" := by decide) (hf : rm.frames + 1 ≤ R.frames := by decide) (hl : W + (maxL + 11) + rm.locals ≤ R.locals := by decide) (hW : 2 * g.monitorRoom + (rest.map fun v => v.category).sum ≤ W := by exact Nat.le_of_eq rfl) (hnc : rm.cells = nc := by rfl) (hns : rm.slots = ns := by rfl) :
    ∃ v T' L, Stand p l e R s m args below meth c T' (locs ++ L) (cells + nc) (slots + ns) ∧ Q v T'.heap L ∧ ∀ target, Steps p.tables e below (T'.setTop { g with pc := g.pc + 3, stack := v.toList ++ rest }) target → Steps p.tables e below (T.setTop g) target := by
  subst hnc hns
  obtain ⟨v, _, ⟨T', L', k', n'⟩, -, X', ⟨L, hQ, h1, h2, h3⟩, st⟩ := X.specialBack hx hy1 hown (mvT hZ w1) (mvT hZ w2) (mvT hZ w4) hy (backOf (W := W) hM hZ w4 w3 hf hl) hg hsize (Steps.refl _) (a := a) (argsL := argsL) (rest := rest) hlen hstack hW hdg (fun _ _ => ⟨has, eT, hc, hs⟩)
  dsimp only [Pt.U, Pt.locs, Pt.cells, Pt.slots] at X' hQ h1 h2 h3 st
  subst h1 h2 h3
  exact ⟨v, T', L, X', hQ, fun _ k => st.trans k⟩
theorem own_callV {y z : MethodName} {bytes : ByteArray} {maxL : Nat} {ret : Option FieldType} {rm : Room} {as' : Array Value} {own C : String} {index : Nat} (X : Stand p l e R s m args below meth c T locs cells slots) (hx : p.tables.exec = Jvm.exec) (hZ : Z.Warmed39 s.vm) (hown : s.vm.findClass own = some m.cls)
    (w1 : (Jvm.Cond.methodLink own index y).before a0 Z = true) (wd : (Jvm.Cond.declares y).before a0 Z = true) (nf : NotFace s y) (wsel : (Jvm.Cond.selects C y z).before a0 Z = true) (w2 : (Jvm.Cond.instanceMethod z).before a0 Z = true) (w3 : (Jvm.Cond.initialized z.cls).before a0 Z = true) (w4 : (Jvm.Cond.code z bytes maxL ret).before a0 Z = true) (hM : own_Met l Z h z bytes maxL ret rm as' Q) (W : Nat) (nc ns : Nat) 
    (hc : cells + nc ≤ R.cells) (hs : slots + ns ≤ R.slots) (eT : T.heap = h) {a : Addr} (E : Exa Z h a C) {g : JFrame} (hg : g.method = m) (hsize : g.locals.size = c.maxLocals)
    (argsL rest : List Value) (hlen : ∀ sig, parseMethodDescriptor y.desc = some sig → argsL.length = sig.parameters.length) (hstack : g.stack = argsL.reverse ++ .ref a :: rest) (has : (Value.ref a :: argsL).toArray = as') (hdg : decode c.code g.pc = .ok (.invokevirtual index, 3))
    (hy : y.cls ≠ "java/lang/invoke/MethodHandle" ∧ y.cls ≠ "java/lang/invoke/VarHandle" := by decide) (hf : rm.frames + 1 ≤ R.frames := by decide) (hl : W + (maxL + 11) + rm.locals ≤ R.locals := by decide) (hW : 2 * g.monitorRoom + (rest.map fun v => v.category).sum ≤ W := by exact Nat.le_of_eq rfl) (hnc : rm.cells = nc := by rfl) (hns : rm.slots = ns := by rfl) :
    ∃ v T' L, Stand p l e R s m args below meth c T' (locs ++ L) (cells + nc) (slots + ns) ∧ Q v T'.heap L ∧ ∀ target, Steps p.tables e below (T'.setTop { g with pc := g.pc + 3, stack := v.toList ++ rest }) target → Steps p.tables e below (T.setTop g) target := by
  subst hnc hns
  obtain ⟨cq, kq, qa, qb, qc⟩ := isOf hZ eT E
  obtain ⟨v, _, ⟨T', L', k', n'⟩, -, X', ⟨L, hQ, h1, h2, h3⟩, st⟩ := X.virtualBack hx hown (mvT hZ w1) (mvT hZ wd) nf (mvT hZ wsel) (mvT hZ w2) hy (backOf (W := W) hM hZ w4 w3 hf hl) qa qc hg hsize (Steps.refl _) (argsL := argsL) (rest := rest) hlen hstack hW hdg (fun _ _ => ⟨has, eT, hc, hs⟩)
  dsimp only [Pt.U, Pt.locs, Pt.cells, Pt.slots] at X' hQ h1 h2 h3 st
  subst h1 h2 h3
  exact ⟨v, T', L, X', hQ, fun _ k => st.trans k⟩
theorem own_callP {y : MethodName} {bytes : ByteArray} {maxL : Nat} {ret : Option FieldType} {rm : Room} {as' : Array Value} {own C : String} {index : Nat} (X : Stand p l e R s m args below meth c T locs cells slots) (hx : p.tables.exec = Jvm.exec) (hZ : Z.Warmed39 s.vm) (hown : s.vm.findClass own = some m.cls)
    (w1 : (Jvm.Cond.methodLink own index y).before a0 Z = true) (w2 : (Jvm.Cond.instanceMethod y).before a0 Z = true) (wsel : (Jvm.Cond.selects y.cls y y).before a0 Z = true) (wp : (Jvm.Cond.privateMethod y).before a0 Z = true) (w3 : (Jvm.Cond.initialized y.cls).before a0 Z = true) (w4 : (Jvm.Cond.code y bytes maxL ret).before a0 Z = true) (hM : own_Met l Z h y bytes maxL ret rm as' Q) (W : Nat) (nc ns : Nat) 
    (hc : cells + nc ≤ R.cells) (hs : slots + ns ≤ R.slots) (eT : T.heap = h) {a : Addr} (E : Exa Z h a C) {g : JFrame} (hg : g.method = m) (hsize : g.locals.size = c.maxLocals)
    (argsL rest : List Value) (hlen : ∀ sig, parseMethodDescriptor y.desc = some sig → argsL.length = sig.parameters.length) (hstack : g.stack = argsL.reverse ++ .ref a :: rest) (has : (Value.ref a :: argsL).toArray = as') (hdg : decode c.code g.pc = .ok (.invokevirtual index, 3))
    (hy : y.cls ≠ "java/lang/invoke/MethodHandle" ∧ y.cls ≠ "java/lang/invoke/VarHandle" := by decide) (hf : rm.frames + 1 ≤ R.frames := by decide) (hl : W + (maxL + 11) + rm.locals ≤ R.locals := by decide) (hW : 2 * g.monitorRoom + (rest.map fun v => v.category).sum ≤ W := by exact Nat.le_of_eq rfl) (hnc : rm.cells = nc := by rfl) (hns : rm.slots = ns := by rfl) :
    ∃ v T' L, Stand p l e R s m args below meth c T' (locs ++ L) (cells + nc) (slots + ns) ∧ Q v T'.heap L ∧ ∀ target, Steps p.tables e below (T'.setTop { g with pc := g.pc + 3, stack := v.toList ++ rest }) target → Steps p.tables e below (T.setTop g) target := by
  subst hnc hns
  obtain ⟨cq, q1, q2⟩ := E.cell
  obtain ⟨v, _, ⟨T', L', k', n'⟩, -, X', ⟨L, hQ, h1, h2, h3⟩, st⟩ := X.privateBack hx hown (mvT hZ w1) (mvT hZ w2) (mvT hZ wsel) (Cond.privateMethod_at (mvP hZ wp (args := #[]))) (mvT hZ w4) hy (backOf (W := W) hM hZ w4 w3 hf hl) hg hsize (Steps.refl _) (a := a) (by rw [eT]; exact q1) q2 (argsL := argsL) (rest := rest) hlen hstack hW hdg (fun _ _ => ⟨has, eT, hc, hs⟩)
  dsimp only [Pt.U, Pt.locs, Pt.cells, Pt.slots] at X' hQ h1 h2 h3 st
  subst h1 h2 h3
  exact ⟨v, T', L, X', hQ, fun _ k => st.trans k⟩
theorem own_callF {xi y : MethodName} {bytes : ByteArray} {maxL : Nat} {ret : Option FieldType} {rm : Room} {as' : Array Value} {own C : String} {index count : Nat} (X : Stand p l e R s m args below meth c T locs cells slots) (hx : p.tables.exec = Jvm.exec) (hZ : Z.Warmed39 s.vm) (hown : s.vm.findClass own = some m.cls)
    (w1 : (Jvm.Cond.methodLink own index xi).before a0 Z = true) (wd : (Jvm.Cond.declares xi).before a0 Z = true) (wfa : (Jvm.Cond.interfaceMethod xi.cls xi.cls xi.name xi.desc).before a0 Z = true) (wsel : (Jvm.Cond.selects C xi y).before a0 Z = true) (w2 : (Jvm.Cond.instanceMethod y).before a0 Z = true) (wp : (Jvm.Cond.publicMethod y).before a0 Z = true) (wu : (Jvm.Cond.unhidden C xi.name xi.desc).before a0 Z = true) (wk : (Jvm.Cond.castable C xi.cls).before a0 Z = true) (w3 : (Jvm.Cond.initialized y.cls).before a0 Z = true) (w4 : (Jvm.Cond.code y bytes maxL ret).before a0 Z = true) (hfk : ((Jvm.Cond.interfaceMethod xi.cls xi.cls xi.name xi.desc).onTables && (Jvm.Cond.interfaceMethod xi.cls xi.cls xi.name xi.desc).keepsFace) = true) (hM : own_Met l Z h y bytes maxL ret rm as' Q) (W : Nat) (nc ns : Nat) 
    (hc : cells + nc ≤ R.cells) (hs : slots + ns ≤ R.slots) (eT : T.heap = h) {a : Addr} (E : Exa Z h a C) {g : JFrame} (hg : g.method = m) (hsize : g.locals.size = c.maxLocals)
    (argsL rest : List Value) (hlen : ∀ sig, parseMethodDescriptor xi.desc = some sig → argsL.length = sig.parameters.length) (hstack : g.stack = argsL.reverse ++ .ref a :: rest) (has : (Value.ref a :: argsL).toArray = as') (hdg : decode c.code g.pc = .ok (.invokeinterface index count, 5))
    (hy : xi.cls ≠ "java/lang/invoke/MethodHandle" ∧ xi.cls ≠ "java/lang/invoke/VarHandle" := by decide) (hf : rm.frames + 1 ≤ R.frames := by decide) (hl : W + (maxL + 11) + rm.locals ≤ R.locals := by decide) (hW : 2 * g.monitorRoom + (rest.map fun v => v.category).sum ≤ W := by exact Nat.le_of_eq rfl) (hnc : rm.cells = nc := by rfl) (hns : rm.slots = ns := by rfl) :
    ∃ v T' L, Stand p l e R s m args below meth c T' (locs ++ L) (cells + nc) (slots + ns) ∧ Q v T'.heap L ∧ ∀ target, Steps p.tables e below (T'.setTop { g with pc := g.pc + 5, stack := v.toList ++ rest }) target → Steps p.tables e below (T.setTop g) target := by
  subst hnc hns
  obtain ⟨cq, kq, qa, qb, qc⟩ := isOf hZ eT E
  obtain ⟨v, _, ⟨T', L', k', n'⟩, -, X', ⟨L, hQ, h1, h2, h3⟩, st⟩ := X.interfaceBack hx hown (mvT hZ w1) (mvT hZ wd) (mvT hZ wfa hfk) (mvT hZ wsel) (mvT hZ w2) (mvT hZ wp) (mvT hZ wu) (mvT hZ wk) hy (backOf (W := W) hM hZ w4 w3 hf hl) qa qb qc hg hsize (Steps.refl _) (argsL := argsL) (rest := rest) hlen hstack hW hdg (fun _ _ => ⟨has, eT, hc, hs⟩)
  dsimp only [Pt.U, Pt.locs, Pt.cells, Pt.slots] at X' hQ h1 h2 h3 st
  subst h1 h2 h3
  exact ⟨v, T', L, X', hQ, fun _ k => st.trans k⟩
theorem own_callU {y z : MethodName} {bytes : ByteArray} {maxL : Nat} {ret : Option FieldType} {rm : Room} {as' : Array Value} {own owner C : String} {index : Nat} (X : Stand p l e R s m args below meth c T locs cells slots) (hx : p.tables.exec = Jvm.exec) (hZ : Z.Warmed39 s.vm) (hown : s.vm.findClass own = some m.cls)
    (w1 : (Jvm.Cond.methodLink own index y).before a0 Z = true) (wsm : (Jvm.Cond.sameMethod y.cls owner y.name y.desc).before a0 Z = true) (wd : (Jvm.Cond.declares ⟨owner, y.name, y.desc⟩).before a0 Z = true) (wsel : (Jvm.Cond.selects C y z).before a0 Z = true) (w2 : (Jvm.Cond.instanceMethod z).before a0 Z = true) (w3 : (Jvm.Cond.initialized z.cls).before a0 Z = true) (w4 : (Jvm.Cond.code z bytes maxL ret).before a0 Z = true) (hM : own_Met l Z h z bytes maxL ret rm as' Q) (W : Nat) (nc ns : Nat) 
    (hc : cells + nc ≤ R.cells) (hs : slots + ns ≤ R.slots) (eT : T.heap = h) {a : Addr} (E : Exa Z h a C) {g : JFrame} (hg : g.method = m) (hsize : g.locals.size = c.maxLocals)
    (argsL rest : List Value) (hlen : ∀ sig, parseMethodDescriptor y.desc = some sig → argsL.length = sig.parameters.length) (hstack : g.stack = argsL.reverse ++ .ref a :: rest) (has : (Value.ref a :: argsL).toArray = as') (hdg : decode c.code g.pc = .ok (.invokevirtual index, 3))
    (howner : owner ≠ "java/lang/invoke/MethodHandle" ∧ owner ≠ "java/lang/invoke/VarHandle" := by decide) (hf : rm.frames + 1 ≤ R.frames := by decide) (hl : W + (maxL + 11) + rm.locals ≤ R.locals := by decide) (hW : 2 * g.monitorRoom + (rest.map fun v => v.category).sum ≤ W := by exact Nat.le_of_eq rfl) (hnc : rm.cells = nc := by rfl) (hns : rm.slots = ns := by rfl) :
    ∃ v T' L, Stand p l e R s m args below meth c T' (locs ++ L) (cells + nc) (slots + ns) ∧ Q v T'.heap L ∧ ∀ target, Steps p.tables e below (T'.setTop { g with pc := g.pc + 3, stack := v.toList ++ rest }) target → Steps p.tables e below (T.setTop g) target := by
  subst hnc hns
  obtain ⟨cq, kq, qa, qb, qc⟩ := isOf hZ eT E
  obtain ⟨v, _, ⟨T', L', k', n'⟩, -, X', ⟨L, hQ, h1, h2, h3⟩, st⟩ := X.virtualBackUp hx hown (mvT hZ w1) (mvT hZ wsm) (mvT hZ wd) howner (mvT hZ wsel) (mvT hZ w2) (backOf (W := W) hM hZ w4 w3 hf hl) qa qc hg hsize (Steps.refl _) (argsL := argsL) (rest := rest) hlen hstack hW hdg (fun _ _ => ⟨has, eT, hc, hs⟩)
  dsimp only [Pt.U, Pt.locs, Pt.cells, Pt.slots] at X' hQ h1 h2 h3 st
  subst h1 h2 h3
  exact ⟨v, T', L, X', hQ, fun _ k => st.trans k⟩
theorem own_callIB {y : MethodName} {bytes : ByteArray} {maxL : Nat} {as' : Array Value} {own : String} {index : Nat} (X : Stand p l e R s m args below meth c T locs cells slots) (hx : p.tables.exec = Jvm.exec) (hZ : Z.Warmed39 s.vm) (hown : s.vm.findClass own = some m.cls)
    (w1 : (Jvm.Cond.methodLink own index y).before a0 Z = true) (w2 : (Jvm.Cond.instanceMethod y).before a0 Z = true) (w3 : (Jvm.Cond.initialized y.cls).before a0 Z = true) (w4 : (Jvm.Cond.code y bytes maxL none).before a0 Z = true) (W nc ns : Nat) (hB : Back l R p e below s args y 3 W (fun A a => a = as' ∧ A.U.heap = h ∧ A.cells + nc ≤ R.cells ∧ A.slots + ns ≤ R.slots) (fun A _ v B => ∃ L, Q v B.U.heap L ∧ B.locs = A.locs ++ L ∧ B.cells = A.cells + nc ∧ B.slots = A.slots + ns)) (hy1 : y.name = "<init>")
    (hc : cells + nc ≤ R.cells) (hs : slots + ns ≤ R.slots) (eT : T.heap = h) {g : JFrame} (hg : g.method = m) (hsize : g.locals.size = c.maxLocals)
    (a : Addr) (argsL rest : List Value) (hlen : ∀ sig, parseMethodDescriptor y.desc = some sig → argsL.length = sig.parameters.length) (hstack : g.stack = argsL.reverse ++ .ref a :: rest) (has : (Value.ref a :: argsL).toArray = as') (hdg : decode c.code g.pc = .ok (.invokespecial index, 3))
    (hy : y.cls ≠ "java/lang/invoke/MethodHandle" ∧ y.cls ≠ "java/lang/invoke/VarHandle" := by decide) (hW : 2 * g.monitorRoom + (rest.map fun v => v.category).sum ≤ W := by exact Nat.le_of_eq rfl) :
    ∃ v T' L, Stand p l e R s m args below meth c T' (locs ++ L) (cells + nc) (slots + ns) ∧ Q v T'.heap L ∧ ∀ target, Steps p.tables e below (T'.setTop { g with pc := g.pc + 3, stack := v.toList ++ rest }) target → Steps p.tables e below (T.setTop g) target := by
  obtain ⟨v, _, ⟨T', L', k', n'⟩, -, X', ⟨L, hQ, h1, h2, h3⟩, st⟩ := X.specialBack hx hy1 hown (mvT hZ w1) (mvT hZ w2) (mvT hZ w4) hy hB hg hsize (Steps.refl _) (a := a) (argsL := argsL) (rest := rest) hlen hstack hW hdg (fun _ _ => ⟨has, eT, hc, hs⟩)
  dsimp only [Pt.U, Pt.locs, Pt.cells, Pt.slots] at X' hQ h1 h2 h3 st
  subst h1 h2 h3
  exact ⟨v, T', L, X', hQ, fun _ k => st.trans k⟩
theorem own_callVB {y z : MethodName} {bytes : ByteArray} {maxL : Nat} {ret : Option FieldType} {as' : Array Value} {own C : String} {index : Nat} (X : Stand p l e R s m args below meth c T locs cells slots) (hx : p.tables.exec = Jvm.exec) (hZ : Z.Warmed39 s.vm) (hown : s.vm.findClass own = some m.cls)
    (w1 : (Jvm.Cond.methodLink own index y).before a0 Z = true) (wd : (Jvm.Cond.declares y).before a0 Z = true) (nf : NotFace s y) (wsel : (Jvm.Cond.selects C y z).before a0 Z = true) (w2 : (Jvm.Cond.instanceMethod z).before a0 Z = true) (w3 : (Jvm.Cond.initialized z.cls).before a0 Z = true) (w4 : (Jvm.Cond.code z bytes maxL ret).before a0 Z = true) (W nc ns : Nat) (hB : Back l R p e below s args z 3 W (fun A a => a = as' ∧ A.U.heap = h ∧ A.cells + nc ≤ R.cells ∧ A.slots + ns ≤ R.slots) (fun A _ v B => ∃ L, Q v B.U.heap L ∧ B.locs = A.locs ++ L ∧ B.cells = A.cells + nc ∧ B.slots = A.slots + ns)) 
    (hc : cells + nc ≤ R.cells) (hs : slots + ns ≤ R.slots) (eT : T.heap = h) {a : Addr} (E : Exa Z h a C) {g : JFrame} (hg : g.method = m) (hsize : g.locals.size = c.maxLocals)
    (argsL rest : List Value) (hlen : ∀ sig, parseMethodDescriptor y.desc = some sig → argsL.length = sig.parameters.length) (hstack : g.stack = argsL.reverse ++ .ref a :: rest) (has : (Value.ref a :: argsL).toArray = as') (hdg : decode c.code g.pc = .ok (.invokevirtual index, 3))
    (hy : y.cls ≠ "java/lang/invoke/MethodHandle" ∧ y.cls ≠ "java/lang/invoke/VarHandle" := by decide) (hW : 2 * g.monitorRoom + (rest.map fun v => v.category).sum ≤ W := by exact Nat.le_of_eq rfl) :
    ∃ v T' L, Stand p l e R s m args below meth c T' (locs ++ L) (cells + nc) (slots + ns) ∧ Q v T'.heap L ∧ ∀ target, Steps p.tables e below (T'.setTop { g with pc := g.pc + 3, stack := v.toList ++ rest }) target → Steps p.tables e below (T.setTop g) target := by
  obtain ⟨cq, kq, qa, qb, qc⟩ := isOf hZ eT E
  obtain ⟨v, _, ⟨T', L', k', n'⟩, -, X', ⟨L, hQ, h1, h2, h3⟩, st⟩ := X.virtualBack hx hown (mvT hZ w1) (mvT hZ wd) nf (mvT hZ wsel) (mvT hZ w2) hy hB qa qc hg hsize (Steps.refl _) (argsL := argsL) (rest := rest) hlen hstack hW hdg (fun _ _ => ⟨has, eT, hc, hs⟩)
  dsimp only [Pt.U, Pt.locs, Pt.cells, Pt.slots] at X' hQ h1 h2 h3 st
  subst h1 h2 h3
  exact ⟨v, T', L, X', hQ, fun _ k => st.trans k⟩
/-- the start's heap stands in h unchanged -/
theorem own_oldExt {h' : Heap} (O : Ext Z.heap h) (E : Ext h h') : Ext Z.heap h' := ⟨Nat.le_trans O.1 E.1, fun x c q => E.2 x c (O.2 x c q)⟩
theorem own_oldKeep {h' : Heap} {ws : List Addr} (O : Ext Z.heap h) (K : Keep h h' ws) (q : ∀ x ∈ ws, Z.heap.size ≤ x) : Ext Z.heap h' :=
  ⟨Nat.le_trans O.1 K.1, fun x c r => K.2.1 x c (O.2 x c r) fun z => absurd (Array.getElem?_eq_some_iff.mp r).1 (Nat.not_lt.mpr (q x z))⟩
theorem own_oldWr {h' : Heap} {a : Addr} {sl : Nat} {v : Value} (O : Ext Z.heap h) (W : Wr h h' a sl v) (q : Z.heap.size ≤ a) : Ext Z.heap h' := own_oldKeep O (Keep.of_wr W) (allS q all0)
theorem own_keepTrans {h0 h' : Heap} {ws : List Addr} (K : Keep h0 h ws) (K' : Keep h h' []) : Keep h0 h' ws := K.trans K' fun x q => nomatch q
theorem own_insKeep {h' : Heap} {ws : List Addr} {a : Addr} {C : String} {b : Bool} (F : Ins Z h a C b) (K : Keep h h' ws) : Ins Z h' a C b := by
  obtain ⟨cell, cT, h1, h2, h3⟩ := F
  obtain ⟨c', q1, q2, q3, -⟩ := K.2.2 a cell h1
  exact ⟨c', cT, q1, h2, by rw [q2, q3]; exact h3⟩
theorem own_cat1 {v : Value} (r : v.isRef = true) : v.category = 1 := by cases v <;> simp [Value.isRef, Value.category] at r ⊢
theorem own_fitsRef {v : Value} (t : FieldType) (r : v.isRef = true) (ht : t.isReference = true) : fits t v = true := by
  cases t <;> first | (cases ht; done) | (rcases ref_cases r with rfl | ⟨_, rfl⟩ <;> rfl)
theorem own_narRef {v : Value} (t : FieldType) (r : v.isRef = true) (ht : t.isReference = true) : narrow t v = v := by
  cases t <;> first | (cases ht; done) | (rcases ref_cases r with rfl | ⟨_, rfl⟩ <;> rfl)
theorem own_keepSub {h0 : Heap} {ws ws' : List Addr} (K : Keep h0 h ws) (q : ∀ x ∈ ws, x ∈ ws') : Keep h0 h ws' := ⟨K.1, fun x c r z => K.2.1 x c r fun u => z (q x u), K.2.2⟩
theorem own_neTy {a b : Addr} {k k' : ClassId} {ty ty' : FieldType} {z z' : Int32} {vs vs' : List Value} {d d' : Value} (F : Arv Z h a k ty z vs d) (G : Arv Z h b k' ty' z' vs' d') (hn : ty ≠ ty') : a ≠ b := by
  rintro rfl
  obtain ⟨c, A, -⟩ := F
  obtain ⟨c', A', -⟩ := G
  cases A.1.symm.trans A'.1
  obtain ⟨-, k1, q1, cm1, r1⟩ := A.2.1
  obtain ⟨-, k2, q2, cm2, r2⟩ := A'.2.1
  cases q1.symm.trans q2
  rw [r1] at r2
  cases r2
  exact hn rfl
theorem own_catR (a : Addr) : (Value.ref a).category = 1 := rfl
theorem own_catN : Value.null.category = 1 := rfl
theorem own_catI (a : Int32) : (Value.int a).category = 1 := rfl
theorem own_catJ (a : Int64) : (Value.long a).category = 2 := rfl
end OwnKit
/-- the state with these tables and this heap -/
abbrev own_at (Z : State) (vm : Vm) (h : Heap) : State := { Z with vm := vm, heap := h }
theorem own_byteV (u : UInt8) : byteValue u = .int u.toInt8.toInt32 := rfl
theorem own_slFacts {Z : State} {vm : Vm} {h : Heap} {a : Addr} {units : Array UInt16} (hW : Z.Warmed39 vm) (H : SlOf (own_at Z vm h) a units) (hlat : units.all (· < 256) = true) :
    ∃ (b : Addr) (k : ClassId), Exa Z h a "java/lang/String" ∧ Fld Z h a "java/lang/String" "coder" "B" (.int 0) ∧ Fld Z h a "java/lang/String" "value" "[B" (.ref b) ∧ Arv Z h b k .byte (Int32.ofNat units.size) (units.toList.map fun u => Value.int u.toUInt8.toInt8.toInt32) (.int 0) := by
  have hal : Z.vm.Alike (own_at Z vm h).vm := hW.alike
  obtain ⟨q, cS, rfl, ⟨⟨s1, s2, s3, ⟨cv, kv, iv', s4, s4'⟩, ⟨cc, kc, ic, s5, s5'⟩, s6, s7, s8, s9, s10, s11, s12, s13, s14, s15, s16⟩, hfS, hcS⟩, ⟨kS, k1, k2, k3⟩, hB, hby⟩ := H
  obtain ⟨kv', z4⟩ := ff_back hal s4
  obtain ⟨kc', z5⟩ := ff_back hal s5
  have hf : Z.vm.findClass "java/lang/String" = some q.sC.cls := by rw [hcS, ← hal.findClass]; exact hfS
  obtain ⟨kz, hkz, -⟩ := Vm.findClass_spec hf
  obtain ⟨kz', hkz', ekz⟩ := hal.2.2 _ _ hkz
  rw [hcS] at hkz'
  cases hkz'.symm.trans k1
  have hBZ : Z.vm.findClass "[B" = some q.SA.cls := by rw [← hal.findClass]; exact hB
  obtain ⟨kb, hkb, -⟩ := Vm.findClass_spec hBZ
  obtain ⟨kb', hkb', ekb⟩ := hal.2.2 _ _ hkb
  obtain ⟨hst, k9, hk9, comp, hkind⟩ := s11
  cases hk9.symm.trans hkb'
  have hsl : q.SA.slots = units.map fun u => byteValue u.toUInt8 := by rw [hby, SBG.stringBytes_lat hlat]
  have hsz : q.SA.slots.size = units.size := by rw [hsl, Array.size_map]
  have hlt : units.size < 2 ^ 31 := by omega
  have hn : (Int32.ofNat units.size).toNatClampNeg = units.size ∧ ¬ (Int32.ofNat units.size) < 0 := by
    have e : (Int32.ofNat units.size).toInt = units.size := by
      exact len_toInt hlt
    refine ⟨by simp [Int32.toNatClampNeg, e], ?_⟩
    rw [Int32.lt_iff_toInt_lt, e]; show ¬ ((units.size : Int) < 0); omega
  have H' : Has q.SA (units.toList.map fun u => Value.int u.toUInt8.toInt8.toInt32) (.int 0) := fun j hj => by
    have hj' : j < units.size := by omega
    rw [hsl]; simp [hj', own_byteV]
  refine ⟨q.sd, q.SA.cls, ⟨q.sC, kz, s1, hf, hkz, s3, fun _ => by rw [k3, ekz]⟩, ⟨q.sC, cc, kc', ic, q.fSC, s1, z5, s7, s2, s3, by rw [← hal.assignable]; exact s5', s9⟩, ⟨q.sC, cv, kv', iv', q.fSV, s1, z4, s6, s2, s3, by rw [← hal.assignable]; exact s4', s8⟩, q.SA, ⟨s10, ⟨hst, kb, hkb, comp, by rw [ekb] at hkind; exact hkind⟩, s12⟩, rfl, by rw [hsz, hn.1], hn.2, H', fun j hj => ?_⟩
  have e1 := s16 j hj
  rw [SBG.getD_of (H' j hj)] at e1
  exact e1
def own_L (Z : State) (a0 : Array Value) : Prop := ∀ e ∈ consts_1, ∃ text, (Jvm.Cond.stringLink e.1 e.2 text).before a0 Z = true
/-- whichever String the JVM holds for a constant of the list, she bears its text -/
def own_J (Z : State) (vm : Vm) (h : Heap) : Prop := ∀ e ∈ consts_1, ConstHeldL (own_at Z vm h) e.1 e.2
theorem own_Jstep {Z : State} {vm vm' : Vm} {h h' : Heap} {a0 : Array Value} (L : own_L Z a0) (hZ : Z.Warmed39 vm) (hJ : own_J Z vm h) (hW : (own_at Z vm h).Warmed39 vm')
    (hmv : ∀ a units, SlOf (own_at Z vm h) a units → SlOf (own_at Z vm' h') a units)
    (hfind : ∀ units a, vm'.interned.find? (fun p => p.1 == units) = some (units, a) → vm.interned.find? (fun p => p.1 == units) = some (units, a) ∨ SlOf (own_at Z vm' h') a units) : own_J Z vm' h' := by
  intro e he c k' cf i units a hc' hk' hcf' hp hu hor
  have hal : vm.Alike vm' := hW.alike
  have hc : vm.findClass e.1 = some c := by rw [← hal.findClass]; exact hc'
  obtain ⟨text, ht⟩ := L e he
  have ht' : (Jvm.Cond.stringLink e.1 e.2 text).before a0 (own_at Z vm h) = true := mvS (s := { Z with heap := h }) hZ ht
  obtain ⟨k, cf0, i0, units0, hk, hcf, hp0, hu0, hnm, -, -⟩ := Cond.stringLink_spec (s := own_at Z vm h) hc ht'
  obtain ⟨k2, hk2, hke, -, ee, -⟩ := hW.2.2.2 c k hk
  cases (show vm'.classes[c]? = some k' from hk').symm.trans hk2
  have hcfe : k'.cf = k.cf := by rw [hke]
  cases (hcfe ▸ hcf').symm.trans hcf
  cases hp.symm.trans hp0
  cases hu.symm.trans hu0
  have H := hJ e he c k cf i units
  rcases ee e.2 with e0 | ⟨hop, r, e1, hr | ⟨a3, t3, si, us, rfl, -, q3, q4, q5⟩⟩
  · rcases hor with h0 | ⟨h0, hf⟩
    · exact hmv _ _ (H a hc hk hcf hp hu (Or.inl (e0 ▸ h0)))
    · rcases hfind units a hf with hf | hs
      · exact hmv _ _ (H a hc hk hcf hp hu (Or.inr ⟨e0 ▸ h0, hf⟩))
      · exact hs
  · exfalso
    cases r <;> simp [State.rightAt, hk, hcf, hnm] at hr
  · have e3 : si = i := by
      rw [hcf] at q3
      have q := q3.symm.trans hp
      simpa using q
    subst e3
    have e4 : us = units := by
      rw [hcf] at q4
      simpa [ConstantPool.utf8?, hu] using q4.symm
    subst e4
    have ea : a3 = a := by
      rcases hor with h0 | ⟨h0, -⟩
      · have q := e1.symm.trans h0; simpa using q
      · have q := e1.symm.trans h0; simp at q
    subst ea
    rcases hfind us a3 q5 with hf | hs
    · exact hmv _ _ (H a3 hc hk hcf hp hu (Or.inr ⟨hop, hf⟩))
    · exact hs
theorem own_Jwarm {Z s : State} {vm vm' : Vm} {h : Heap} {a0 : Array Value} (L : own_L Z a0) (hZ : Z.Warmed39 vm) (hJ : own_J Z vm h) (hW : (s.setVm vm).WarmedH vm') : own_J Z vm' h := by
  have hW1 : (own_at Z vm h).WarmedH vm' := hW
  refine own_Jstep L hZ hJ hW1.wide (fun a u H => H.moved hW1.alike fun _ _ q => q) fun units a hf => Or.inl ?_
  have e : vm'.interned = vm.interned := hW1.interned_eq
  rw [← e]; exact hf
theorem own_Jext {Z : State} {vm : Vm} {h h' : Heap} (hJ : own_J Z vm h) (E : Ext h h') : own_J Z vm h' := fun e he c k cf i units a h1 h2 h3 h4 h5 h6 =>
  (hJ e he c k cf i units a h1 h2 h3 h4 h5 h6).moved (Vm.Alike.refl _) fun b c q => E.2 b c q
/-- the cell at w is no String and no byte[] -/
def own_Far (Z : State) (h : Heap) (w : Addr) : Prop := ∀ cell : Cell, h[w]? = some cell → ¬ Z.vm.findClass "java/lang/String" = some cell.cls ∧ ¬ Z.isArrayOf cell .byte
theorem own_farN {Z : State} {h : Heap} {w : Addr} (q : h.size ≤ w) : own_Far Z h w := fun cell hc => absurd (Array.getElem?_eq_some_iff.mp hc).1 (Nat.not_lt.mpr q)
theorem own_farE {Z : State} {h : Heap} {w : Addr} {C : String} {n : Nat} {a0 : Array Value} (E : Exa Z h w C) (hC : C ≠ "java/lang/String") (wi : (Jvm.Cond.instantiable C n).before a0 Z = true) : own_Far Z h w := fun cell hc => by
  obtain ⟨c1, k, e1, e2, e3, -, -⟩ := E
  cases hc.symm.trans e1
  refine ⟨fun q => ids_ne e2 q hC rfl, fun q => ?_⟩
  obtain ⟨c2, k2, i1, i2, i3, -⟩ := Cond.instantiable_spec wi
  cases e2.symm.trans i1
  cases e3.symm.trans i2
  obtain ⟨-, k3, j1, cm, j2⟩ := q
  cases e3.symm.trans j1
  rw [i3] at j2; cases j2
theorem own_farV {Z : State} {h : Heap} {w : Addr} {k : ClassId} {ty : FieldType} {z : Int32} {vs : List Value} {d : Value} {n : Nat} {a0 : Array Value} (V : Arv Z h w k ty z vs d) (hty : ty ≠ .byte) (wi : (Jvm.Cond.instantiable "java/lang/String" n).before a0 Z = true) : own_Far Z h w := fun cell hc => by
  obtain ⟨c1, A, -⟩ := V
  cases hc.symm.trans A.1
  obtain ⟨-, k3, j1, cm, j2⟩ := A.2.1
  refine ⟨fun q => ?_, fun q => ?_⟩
  · obtain ⟨c2, k2, i1, i2, i3, -⟩ := Cond.instantiable_spec wi
    cases q.symm.trans i1
    cases j1.symm.trans i2
    rw [i3] at j2; cases j2
  · obtain ⟨-, k4, r1, cm', r2⟩ := q
    cases j1.symm.trans r1
    rw [j2] at r2; cases r2
    exact hty rfl
theorem own_slKeep {Z : State} {vm : Vm} {h h' : Heap} {ws : List Addr} {a : Addr} {units : Array UInt16} (hZ : Z.Warmed39 vm) (H : SlOf (own_at Z vm h) a units) (K : Keep h h' ws) (far : ∀ w ∈ ws, own_Far Z h w) : SlOf (own_at Z vm h') a units := by
  obtain ⟨q, cS, h1, h2, h3, h4, h5⟩ := H
  have hal : Z.vm.Alike vm := hZ.alike
  obtain ⟨⟨s1, s2, s3, s4, s5, s6, s7, s8, s9, s10, s11, s12⟩, hfS, hcS⟩ := id h2
  have n1 : q.sa ∉ ws := fun m => (far _ m _ s1).1 (by rw [hcS, ← hal.findClass]; exact hfS)
  have n2 : q.sd ∉ ws := fun m => (far _ m _ s10).2 (by
    obtain ⟨t1, k, t2, cm, t3⟩ := s11
    obtain ⟨kb, hkb⟩ : ∃ kb, Z.vm.classes[q.SA.cls]? = some kb := by
      obtain ⟨kb, hkb, -⟩ := Vm.findClass_spec (show Z.vm.findClass "[B" = some q.SA.cls by rw [← hal.findClass]; exact h4)
      exact ⟨kb, hkb⟩
    obtain ⟨kb', hkb', ekb⟩ := hal.2.2 _ _ hkb
    cases t2.symm.trans hkb'
    exact ⟨t1, kb, hkb, cm, by rw [ekb] at t3; exact t3⟩)
  exact ⟨q, cS, h1, SBG.Sl.carry (U := own_at Z vm h) (U' := own_at Z vm h') (Vm.Alike.refl vm) (K.2.1 _ _ s1 n1) (K.2.1 _ _ s10 n2) h2, h3, h4, h5⟩
theorem own_Jkeep {Z : State} {vm : Vm} {h h' : Heap} {ws : List Addr} (hZ : Z.Warmed39 vm) (hJ : own_J Z vm h) (K : Keep h h' ws) (far : ∀ w ∈ ws, own_Far Z h w) : own_J Z vm h' := fun e he c k cf i units a h1 h2 h3 h4 h5 h6 =>
  own_slKeep hZ (hJ e he c k cf i units a h1 h2 h3 h4 h5 h6) K far
theorem own_Jwr {Z : State} {vm : Vm} {h h' : Heap} {w : Addr} {sl : Nat} {v : Value} (hZ : Z.Warmed39 vm) (hJ : own_J Z vm h) (W : Wr h h' w sl v) (far : own_Far Z h w) : own_J Z vm h' := own_Jkeep hZ hJ (Keep.of_wr W) (allS far all0)
theorem own_unitsEq {u v : Array UInt16} {text : String} (hu : utf16ToString? u = some text) (hv : utf16ToString? v = some text) (ht : ∀ c ∈ text.toList, c.toNat < 256) : u = v :=
  Array.toList_inj.mp ((Jvm.ClassFile.units_of_text hu ht).trans (Jvm.ClassFile.units_of_text hv ht).symm)
theorem own_slIn {lo hi : Nat} {W : State} {a : Addr} {units : Array UInt16} (H : SlIn lo hi W a units) : SlOf W a units := by
  obtain ⟨q, cS, h1, h2, h3, h4, h5, -⟩ := H
  exact ⟨q, cS, h1, h2, h3, h4, h5⟩
theorem own_slState {W W' : State} {a : Addr} {units : Array UInt16} (H : SlOf W a units) (hv : W.vm = W'.vm) (hh : W.heap = W'.heap) : SlOf W' a units :=
  H.moved (by rw [hv]; exact Vm.Alike.refl _) fun b c q => by rw [← hh]; exact q
section OwnLdc
variable {p : Program} {l : Launch} {e : Env} {R : Room} {s : State} {vm0 : Vm} {m : MethodId} {args : Array Value} {below : List Frame} {meth : Method} {c : Code} {T : State} {locs : List Loc} {cells slots : Nat} {Z : State} {a0 : Array Value} {h : Heap}
theorem own_reb (X : Stand p l e R s m args below meth c T locs cells slots) (hc : cells ≤ R.cells) (hl : slots ≤ R.slots) :
    Stand p l e { R with cells := R.cells - cells, slots := R.slots - slots } { s with heap := T.heap, slotsUsed := T.slotsUsed } m args below meth c T [] 0 0 := by
  have hroom : State.hasRoom { s with heap := T.heap, slotsUsed := T.slotsUsed } e.platform { R with cells := R.cells - cells, slots := R.slots - slots } = true := by
    have h := X.room
    have u1 := X.heapSize
    have u2 := X.used
    have u3 := X.book
    simp only [State.hasRoom, Bool.and_eq_true, decide_eq_true_eq] at h ⊢
    obtain ⟨⟨⟨⟨h1, h2⟩, h3⟩, h4⟩, h5⟩ := h
    exact ⟨⟨⟨⟨h1, h2⟩, by omega⟩, by omega⟩, u3⟩
  refine ⟨X.admits, X.cas, X.clock, X.frames, hroom, X.hears, X.method, X.code, X.here, X.tail, X.warmed, X.limits, X.bytes, X.same.1, Nat.le_refl _, Nat.le_refl _, ?_, ?_, fun a c h => ⟨c, h, rfl, rfl, fun _ _ => rfl⟩⟩
  · show T.slotsUsed = T.slotsUsed + ((T.heap.toList.drop T.heap.size).map (·.slots.size)).sum
    rw [List.drop_of_length_le (by simp)]; rfl
  · show ((T.heap.toList.drop T.heap.size).map (·.slots.size)).sum ≤ 0
    rw [List.drop_of_length_le (by simp)]; exact Nat.le_refl _
theorem own_rebBack (X : Stand p l e R s m args below meth c T locs cells slots) {R' : Room} {vm1 : Vm} {T2 : State} {k n : Nat} (hW : s.Warmed39 vm1)
    (X2 : Stand p l e R' (({ s with heap := T.heap, slotsUsed := T.slotsUsed } : State).setVm vm1) m args below meth c T2 [] k n) : Stand p l e R (s.setVm vm1) m args below meth c T2 locs (cells + k) (slots + n) := by
  have Y := X.retabled hW
  have h2 : State.sameButNew (T.setVm vm1) (T2.setVm vm1) [] k n := by
    obtain ⟨q1, q2, q3, q4, q5, q6⟩ := X2.same
    refine ⟨?_, q2, q3, q4, q5, q6⟩
    have e1 : T.setVm vm1 = { (s.setVm vm1).setFrames T.frames with heap := T.heap, slotsUsed := T.slotsUsed } := Y.same.1
    have key : ∀ (F G : List Frame) (A H : Heap) (B U : Nat), ({ ({ (s.setVm vm1).setFrames F with heap := A, slotsUsed := B } : State).setFrames G with heap := H, slotsUsed := U } : State) = { (s.setVm vm1).setFrames G with heap := H, slotsUsed := U } := fun F G A H B U => by
      have e2 : ({ ({ (s.setVm vm1).setFrames F with heap := A, slotsUsed := B } : State).setFrames G with heap := H, slotsUsed := U } : State) = { ((s.setVm vm1).setFrames F).setFrames G with heap := H, slotsUsed := U } := rfl
      rw [e2, State.setFrames_setFrames]
    have e3 : (({ (T.setVm vm1).setFrames T2.frames with heap := T2.heap, slotsUsed := T2.slotsUsed } : State)) = { (s.setVm vm1).setFrames T2.frames with heap := T2.heap, slotsUsed := T2.slotsUsed } := by
      rw [e1]; exact key _ _ _ _ _ _
    exact q1.trans e3.symm
  have h3 := Y.same.trans h2
  rw [List.append_nil] at h3
  exact ⟨X.admits, X.cas, X.clock, X.frames, Y.room, Y.hears, Y.method, X.code, X2.here, X2.tail, X2.warmed, X2.limits, X2.bytes, h3⟩
/-- a load of a literal anywhere: the walk re-based on the state in which it stands -/
theorem own_ldcK (X : Stand p l e R (s.setVm vm0) m args below meth c T locs cells slots) (hS : s.Since vm0 h.size) (hx : p.tables.exec = Jvm.exec) (hZ : Z.Warmed39 (s.setVm vm0).vm) {own text : String} {index : Nat} (hown : (s.setVm vm0).vm.findClass own = some m.cls)
    (L : own_L Z a0) (hmem : (own, index) ∈ consts_1) (w : (Jvm.Cond.stringLink own index text).before a0 Z = true) (wS : ∀ a ∈ Bundle.stringAtoms, a.before a0 Z = true) (eT : T.heap = h)
    (hJ : own_J Z vm0 h) (ht : ∀ c ∈ text.toList, c.toNat < 256)
    {g : JFrame} (hg : g.method = m) (hd : decode c.code g.pc = .ok (.ldc index, 2)) {n : Nat} (hn : 4 * text.toList.length ≤ n) (hbig : n ≤ 536870912) (hc : cells + 2 ≤ R.cells) (hl : slots + (n + 4) ≤ R.slots) :
    ∃ (a : Addr) (T' : State) (h' : Heap) (vm1 : Vm) (units : Array UInt16), Stand p l e R (s.setVm vm1) m args below meth c T' locs (cells + 2) (slots + (n + 4)) ∧ T'.heap = h' ∧ Ext h h' ∧ s.Since vm1 h'.size ∧ Z.Warmed39 (s.setVm vm1).vm ∧ (s.setVm vm1).vm.findClass own = some m.cls ∧ own_J Z vm1 h' ∧
      Lit (s.setVm vm1) own index a ∧ utf16ToString? units = some text ∧ SlOf (own_at Z vm1 h') a units ∧ ∀ target, Steps p.tables e below (T'.setTop { g with pc := g.pc + 2, stack := .ref a :: g.stack }) target → Steps p.tables e below (T.setTop g) target := by
  have w0 : (Jvm.Cond.stringLink own index text).before args (s.setVm vm0) = true := mvS hZ w
  obtain ⟨k, cf, i, units, hk, hcf, hp, hu, hnm, htext, hres⟩ := Cond.stringLink_spec (s := s.setVm vm0) hown w0
  rcases hres with hop | ⟨a, hra⟩
  · subst eT
    have hH : ConstHeldL ({ (s.setVm vm0) with heap := T.heap, slotsUsed := T.slotsUsed } : State) own index := fun c' k' cf' i' u' a' q1 q2 q3 q4 q5 q6 => own_slState (hJ _ hmem c' k' cf' i' u' a' q1 q2 q3 q4 q5 q6) rfl rfl
    have w0' : (Jvm.Cond.stringLink own index text).before args ({ (s.setVm vm0) with heap := T.heap, slotsUsed := T.slotsUsed } : State) = true := mvS (s := { (s.setVm vm0) with heap := T.heap, slotsUsed := T.slotsUsed }) hZ w
    have hZ' : Z.Warmed39 ({ (s.setVm vm0) with heap := T.heap, slotsUsed := T.slotsUsed } : State).vm := hZ
    obtain ⟨a, T2, X2', hS2', ⟨k2, hk2, hr2⟩, hb, -, hint, ⟨u2, ht2, hin⟩, st⟩ := (own_reb X (by omega) (by omega)).ldcColdF (fun _ _ q => q) hx (own := own) hown w0' (fun d hd => by
      have q := wS d hd
      simp only [Bundle.stringAtoms, List.mem_cons, List.not_mem_nil, or_false] at hd
      rcases hd with rfl | rfl | rfl | rfl | rfl | rfl | rfl
      · exact mv hZ' q
      · exact mv hZ' q
      · exact mvA hZ' q
      · exact mv hZ' q
      · exact mv hZ' q
      · exact mv hZ' q
      · exact mv hZ' q) hH (fun u hu => Jvm.ClassFile.lat_of_text hu ht) hg hd hn hbig (by show 0 + 2 ≤ R.cells - cells; omega) (by show 0 + (n + 4) ≤ R.slots - slots; omega)
    have E := ext_of hb
    have hW2 : (s.setVm vm0).Warmed39 T2.vm := hS2'.1
    have hS2 : (s.setVm vm0).Since T2.vm T2.heap.size := ⟨hW2, fun j pr hj hp => ⟨Nat.le_trans X.same.2.1 (hS2'.2 j pr hj hp).1, (hS2'.2 j pr hj hp).2⟩⟩
    have X2 : Stand p l e R ((s.setVm vm0).setVm T2.vm) m args below meth c T2 locs (cells + (0 + 2)) (slots + (0 + (n + 4))) := own_rebBack X hW2 X2'
    rw [Nat.zero_add, Nat.zero_add] at X2
    have hTi : T.vm.interned = vm0.interned := X.warmed.interned_eq
    rw [hTi] at hint
    have hsl : SlOf (own_at Z T2.vm T2.heap) a u2 := own_slState (own_slIn hin) rfl rfl
    have hu2 : u2 = units := own_unitsEq ht2 htext ht
    subst hu2
    have hq5 : T2.vm.interned.find? (fun p => p.1 == u2) = some (u2, a) := by
      obtain ⟨k3, hk3, hke, -, ee, -⟩ := hW2.2.2.2 m.cls k hk
      cases hk3.symm.trans hk2
      rcases ee index with e0 | ⟨-, r, e1, hr | ⟨a3, t3, si, us, rfl, -, q3, q4, q5⟩⟩
      · rw [hr2, hop] at e0; cases e0
      · exfalso
        have hk0 : vm0.classes[m.cls]? = some k := hk
        cases r <;> simp [State.rightAt, hk0, hcf, hnm] at hr
      · rw [hcf] at q3 q4
        have e3 : si = i := by have q := q3.symm.trans hp; simpa using q
        subst e3
        have e4 : us = u2 := by simpa [ConstantPool.utf8?, hu] using q4.symm
        subst e4
        have ea : a3 = a := by have q := e1.symm.trans hr2; simpa using q
        subst ea
        exact q5
    have hZ2 : Z.Warmed39 T2.vm := State.Warmed39.trans (t := s.setVm vm0) hZ hW2
    refine ⟨a, T2, T2.heap, T2.vm, u2, X2, rfl, E, hS.trans hS2 E.1, hZ2, by rw [show (s.setVm T2.vm).vm = T2.vm from rfl, hW2.alike.findClass]; exact hown, ?_, ?_, ht2, hsl, st⟩
    · refine own_Jstep L hZ hJ hW2 (fun a' u' H => H.moved hW2.alike fun b c q => E.2 b c q) fun u' a' hf => ?_
      rcases hint with q | ⟨u3, a3, hu3, q⟩
      · rw [q] at hf; exact Or.inl hf
      · rw [q, Array.find?_push] at hf
        cases hold : vm0.interned.find? (fun p => p.1 == u') with
        | some pr => rw [hold] at hf; simp at hf; exact Or.inl (hold.trans (by rw [hf]))
        | none =>
          rw [hold] at hf
          simp only [Option.none_or] at hf
          split at hf
          · cases hf
            have e5 : u' = u2 := own_unitsEq hu3 ht2 ht
            subst e5
            have e6 : a' = a := by
              rw [q, Array.find?_push, hold] at hq5
              simpa using hq5
            subst e6
            exact Or.inr hsl
          · cases hf
    · have hf : T2.vm.findClass own = some m.cls := by rw [hW2.alike.findClass]; exact hown
      simp [Lit, State.resolvedAt?, hf, hk2, hr2]
  · have hLit : Lit (s.setVm vm0) own index a := by
      have hf : vm0.findClass own = some m.cls := hown
      have hk' : vm0.classes[m.cls]? = some k := hk
      simp [Lit, State.resolvedAt?, hf, hk', hra]
    have hsl : SlOf (own_at Z vm0 h) a units := hJ _ hmem m.cls k cf i units a hown hk hcf hp hu (Or.inl hra)
    refine ⟨a, T, h, vm0, units, X.more (by omega) (by omega), eT, ⟨Nat.le_refl _, fun _ _ q => q⟩, hS, hZ, hown, hJ, hLit, htext, hsl, ldcAgain X hx hZ hown w hLit hg hd⟩
end OwnLdc
/-- no String that the JVM holds for a constant of the list is x -/
def own_Apart (vm : Vm) (x : Addr) : Prop := ∀ e ∈ consts_1, ∀ (c : ClassId) (k : Class) (cf : ClassFile) (i : Nat) (units : Array UInt16) (a : Addr), vm.findClass e.1 = some c → vm.classes[c]? = some k → k.cf = some cf →
    cf.constantPool[e.2]? = some (.string i) → cf.constantPool[i]? = some (.utf8 units) → (k.resolved[e.2]? = some (some (.string a)) ∨ (k.resolved[e.2]? = some none ∧ vm.interned.find? (fun p => p.1 == units) = some (units, a))) → a ≠ x
theorem own_slValue {Z : State} {vm : Vm} {h : Heap} {a : Addr} {units : Array UInt16} (hZ : Z.Warmed39 vm) (H : SlOf (own_at Z vm h) a units) : ∃ b, Fld Z h a "java/lang/String" "value" "[B" (.ref b) := by
  have hal : Z.vm.Alike (own_at Z vm h).vm := hZ.alike
  obtain ⟨q, cS, rfl, ⟨⟨s1, s2, s3, ⟨cv, kv, iv', s4, s4'⟩, -, s6, -, s8, -⟩, -, -⟩, -⟩ := H
  obtain ⟨kv', z4⟩ := ff_back hal s4
  exact ⟨q.sd, q.sC, cv, kv', iv', q.fSV, s1, z4, s6, s2, s3, by rw [← hal.assignable]; exact s4', s8⟩
theorem own_apart {Z : State} {vm : Vm} {h : Heap} {x : Addr} (hZ : Z.Warmed39 vm) (hJ : own_J Z vm h) (F : Fld Z h x "java/lang/String" "value" "[B" .null) : own_Apart vm x := fun e he c k cf i units a h1 h2 h3 h4 h5 h6 => by
  obtain ⟨b, G⟩ := own_slValue hZ (hJ e he c k cf i units a h1 h2 h3 h4 h5 h6)
  exact Fld.ne G F (fun q => nomatch q)
theorem own_JkeepS {Z : State} {vm : Vm} {h h' : Heap} {x : Addr} {n : Nat} {a0 : Array Value} (hZ : Z.Warmed39 vm) (hJ : own_J Z vm h) (K : Keep h h' [x]) (hA : own_Apart vm x) (E : Exa Z h x "java/lang/String") (wi : (Jvm.Cond.instantiable "java/lang/String" n).before a0 Z = true) : own_J Z vm h' := fun e he c k cf i units a h1 h2 h3 h4 h5 h6 => by
  have ha : a ≠ x := hA e he c k cf i units a h1 h2 h3 h4 h5 h6
  obtain ⟨q, cS, e1, g2, g3, g4, g5⟩ := hJ e he c k cf i units a h1 h2 h3 h4 h5 h6
  have hal : Z.vm.Alike vm := hZ.alike
  obtain ⟨⟨s1, s2, s3, s4, s5, s6, s7, s8, s9, s10, s11, s12⟩, hfS, hcS⟩ := id g2
  have n2 : q.sd ≠ x := fun m => by
    obtain ⟨t1, k', t2, cm, t3⟩ := s11
    obtain ⟨kb, hkb, -⟩ := Vm.findClass_spec (show Z.vm.findClass "[B" = some q.SA.cls by rw [← hal.findClass]; exact g4)
    obtain ⟨kb', hkb', ekb⟩ := hal.2.2 _ _ hkb
    cases t2.symm.trans hkb'
    obtain ⟨c1, kx, x1, x2, x3, -, -⟩ := E
    cases (m ▸ s10).symm.trans x1
    obtain ⟨c2, k2, i1, i2, i3, -⟩ := Cond.instantiable_spec wi
    cases x2.symm.trans i1
    cases hkb.symm.trans i2
    rw [ekb] at t3
    rw [i3] at t3; cases t3
  exact ⟨q, cS, e1, SBG.Sl.carry (U := own_at Z vm h) (U' := own_at Z vm h') (Vm.Alike.refl vm) (K.2.1 _ _ s1 (by rw [e1]; simpa using ha)) (K.2.1 _ _ s10 (by simpa using n2)) g2, g3, g4, g5⟩
theorem own_JwrS {Z : State} {vm : Vm} {h h' : Heap} {x : Addr} {n sl : Nat} {v : Value} {a0 : Array Value} (hZ : Z.Warmed39 vm) (hJ : own_J Z vm h) (W : Wr h h' x sl v) (hA : own_Apart vm x) (E : Exa Z h x "java/lang/String") (wi : (Jvm.Cond.instantiable "java/lang/String" n).before a0 Z = true) : own_J Z vm h' := own_JkeepS hZ hJ (Keep.of_wr W) hA E wi
theorem own_litFacts {Z : State} {vm : Vm} {h : Heap} {a : Addr} {units : Array UInt16} {text : String} (hW : Z.Warmed39 vm) (H : SlOf (own_at Z vm h) a units) (hu : utf16ToString? units = some text) (ht : ∀ c ∈ text.toList, c.toNat < 256) :
    ∃ (b : Addr) (k : ClassId), Exa Z h a "java/lang/String" ∧ Fld Z h a "java/lang/String" "coder" "B" (.int 0) ∧ Fld Z h a "java/lang/String" "value" "[B" (.ref b) ∧ Arv Z h b k .byte (Int32.ofNat text.toList.length) (text.toList.map fun c => Value.int c.toNat.toUInt16.toUInt8.toInt8.toInt32) (.int 0) := by
  have e := Jvm.ClassFile.units_of_text hu ht
  obtain ⟨b, k, h1, h2, h3, h4⟩ := own_slFacts hW H (Jvm.ClassFile.lat_of_text hu ht)
  refine ⟨b, k, h1, h2, h3, ?_⟩
  have e2 : units.size = text.toList.length := by rw [← Array.length_toList, e, List.length_map]
  rw [e, List.map_map, e2] at h4
  exact h4
/-- the run from U comes to a return whose value, heap and written places Q takes; it has made at most kc cells of ks slots; String constants may have been resolved on the way -/
def own_GoW (p : Program) (e : Env) (below : List Frame) (s Z : State) (Q : Option Value → Heap → List Loc → Prop) (kc ks : Nat) (U : State) : Prop :=
  ∃ t o, Steps p.tables e below U t ∧ t.status = .running ∧ Ended t below o ∧ ∃ v L, o = .returned v ∧ (Q v t.heap L ∧ own_J Z t.vm t.heap) ∧ ReturnedEndW s o t L kc ks
section OwnKitW
variable {p : Program} {l : Launch} {e : Env} {R : Room} {s : State} {vm0 : Vm} {m : MethodId} {args : Array Value} {below : List Frame} {meth : Method} {c : Code} {T : State} {locs : List Loc} {cells slots kc ks : Nat} {Z : State} {a0 : Array Value} {h : Heap} {Q : Option Value → Heap → List Loc → Prop}
theorem own_since {vm : Vm} {k k' : Nat} (hS : s.Since vm k) (q : k ≤ k') : s.Since vm k' := ⟨hS.1, fun j p hj hp => ⟨(hS.2 j p hj hp).1, Nat.lt_of_lt_of_le (hS.2 j p hj hp).2 q⟩⟩
theorem own_goW {U U' : State} (f : ∀ t, Steps p.tables e below U' t → Steps p.tables e below U t) (g : own_GoW p e below s Z Q kc ks U') : own_GoW p e below s Z Q kc ks U := by
  obtain ⟨t, o, a, r⟩ := g
  exact ⟨t, o, f t a, r⟩
theorem own_sameMono {L : List Loc} {k n : Nat} {t : State} (hq : s.sameButNew t L k n) (hc : k ≤ kc) (hs : n ≤ ks) : s.sameButNew t L kc ks := hq.mono hc hs
theorem own_endW (X : Stand p l e R (s.setVm vm0) m args below meth c T locs cells slots) (hS : s.Since vm0 h.size) (hL : own_L Z a0) (hZ : Z.Warmed39 (s.setVm vm0).vm) (hJ : own_J Z vm0 h) (hlk : meth.locks = false) (eT : T.heap = h) {v : Option Value} (hv : meth.sig.returnType = none → v = none) (hc : cells ≤ kc) (hs : slots ≤ ks) (hq : Q v h locs) {U : State}
    (hst : ∀ fs, (∀ (f : JFrame) (acts : List Action), f.method = m → f.locked = none → f.entered = [] → (doReturn e (T.setTop f) acts v).1 = T.setFrames fs) → Steps p.tables e below U (T.setFrames fs)) : own_GoW p e below s Z Q kc ks U := by
  obtain ⟨fs, hr, hrun, hended, h1, h2, h3, h4⟩ := X.leaveW hS (by rw [eT]; exact Nat.le_refl _) (v := v) hv hlk
  refine ⟨_, _, hst fs hr, hrun, hended, v, locs, rfl, ⟨?_, ?_⟩, h1, h2, h3, own_sameMono h4 hc hs⟩
  · show Q v T.heap locs
    rw [eT]; exact hq
  · show own_J Z T.vm T.heap
    rw [eT]; exact own_Jwarm hL hZ hJ X.warmed
theorem own_retNW (X : Stand p l e R (s.setVm vm0) m args below meth c T locs cells slots) (hS : s.Since vm0 h.size) (hL : own_L Z a0) (hZ : Z.Warmed39 (s.setVm vm0).vm) (hJ : own_J Z vm0 h) (hx : p.tables.exec = Jvm.exec) (hlk : meth.locks = false) (eT : T.heap = h) {pc : Nat} {Ls : Array Slot} {z : Int32} {t : FieldType} {rest : List Value} (hret : meth.sig.returnType = some t) (ht : t = .boolean ∨ t = .byte ∨ t = .char ∨ t = .short)
    (hd : decode c.code pc = .ok (.ireturn, 1)) (hc : cells ≤ kc) (hs : slots ≤ ks) (hq : Q (some (.int (nar t z))) h locs) : own_GoW p e below s Z Q kc ks (T.setTop (mkF m pc Ls (.int z :: rest))) :=
  own_endW X hS hL hZ hJ hlk eT (fun q => by rw [hret] at q; cases q) hc hs hq fun fs hr => retN X hx hret ht hd hr
theorem own_retIW (X : Stand p l e R (s.setVm vm0) m args below meth c T locs cells slots) (hS : s.Since vm0 h.size) (hL : own_L Z a0) (hZ : Z.Warmed39 (s.setVm vm0).vm) (hJ : own_J Z vm0 h) (hx : p.tables.exec = Jvm.exec) (hlk : meth.locks = false) (eT : T.heap = h) {pc : Nat} {Ls : Array Slot} {z : Int32} {rest : List Value} (hret : meth.sig.returnType = some .int)
    (hd : decode c.code pc = .ok (.ireturn, 1)) (hc : cells ≤ kc) (hs : slots ≤ ks) (hq : Q (some (.int z)) h locs) : own_GoW p e below s Z Q kc ks (T.setTop (mkF m pc Ls (.int z :: rest))) :=
  own_endW X hS hL hZ hJ hlk eT (fun q => by rw [hret] at q; cases q) hc hs hq fun fs hr => retOut X hx hret rfl (Or.inl ⟨rfl, Or.inl rfl, z, rfl⟩) hd hr
theorem own_retJW (X : Stand p l e R (s.setVm vm0) m args below meth c T locs cells slots) (hS : s.Since vm0 h.size) (hL : own_L Z a0) (hZ : Z.Warmed39 (s.setVm vm0).vm) (hJ : own_J Z vm0 h) (hx : p.tables.exec = Jvm.exec) (hlk : meth.locks = false) (eT : T.heap = h) {pc : Nat} {Ls : Array Slot} {z : Int64} {rest : List Value} (hret : meth.sig.returnType = some .long)
    (hd : decode c.code pc = .ok (.lreturn, 1)) (hc : cells ≤ kc) (hs : slots ≤ ks) (hq : Q (some (.long z)) h locs) : own_GoW p e below s Z Q kc ks (T.setTop (mkF m pc Ls (.long z :: rest))) :=
  own_endW X hS hL hZ hJ hlk eT (fun q => by rw [hret] at q; cases q) hc hs hq fun fs hr => retOut X hx hret rfl (Or.inr (Or.inl ⟨rfl, rfl, z, rfl⟩)) hd hr
theorem own_retAW (X : Stand p l e R (s.setVm vm0) m args below meth c T locs cells slots) (hS : s.Since vm0 h.size) (hL : own_L Z a0) (hZ : Z.Warmed39 (s.setVm vm0).vm) (hJ : own_J Z vm0 h) (hx : p.tables.exec = Jvm.exec) (hlk : meth.locks = false) (eT : T.heap = h) {pc : Nat} {Ls : Array Slot} {v : Value} {t : FieldType} {rest : List Value} (hret : meth.sig.returnType = some t) (ht : t.isReference = true) (hv : v.isRef = true)
    (hd : decode c.code pc = .ok (.areturn, 1)) (hc : cells ≤ kc) (hs : slots ≤ ks) (hq : Q (some v) h locs) : own_GoW p e below s Z Q kc ks (T.setTop (mkF m pc Ls (v :: rest))) :=
  own_endW X hS hL hZ hJ hlk eT (fun q => by rw [hret] at q; cases q) hc hs hq fun fs hr => retOut X hx hret (by cases t <;> first | (cases ht; done) | (rcases ref_cases hv with rfl | ⟨_, rfl⟩ <;> rfl)) (Or.inr (Or.inr (Or.inr (Or.inr ⟨rfl, ht, hv⟩)))) hd hr
theorem own_retVW (X : Stand p l e R (s.setVm vm0) m args below meth c T locs cells slots) (hS : s.Since vm0 h.size) (hL : own_L Z a0) (hZ : Z.Warmed39 (s.setVm vm0).vm) (hJ : own_J Z vm0 h) (hx : p.tables.exec = Jvm.exec) (hlk : meth.locks = false) (eT : T.heap = h) {pc : Nat} {Ls : Array Slot} (hret : meth.sig.returnType = none)
    (hd : decode c.code pc = .ok (.return_, 1)) (hc : cells ≤ kc) (hs : slots ≤ ks) (hq : Q none h locs) : own_GoW p e below s Z Q kc ks (T.setTop (mkF m pc Ls [])) :=
  own_endW X hS hL hZ hJ hlk eT (fun _ => rfl) hc hs hq fun fs hr => X.returnOut hx hret hd hr
theorem own_metW {y : MethodName} {bytes : ByteArray} {maxL : Nat} {ret : Option FieldType} {ws : List Jvm.Cond} {rm : Room} {as' : Array Value} (kc ks : Nat) (hpl : plainFor y = true)
    (body : ∀ (p : Program) (e : Env) (s : State) (vm0 : Vm) (m : MethodId) (below : List Frame) (meth : Method) (c : Code) (T : State), Stand p l e rm (s.setVm vm0) m as' below meth c T [] 0 0 → s.Since vm0 h.size → own_J Z vm0 h → own_J Z s.vm s.heap → Z.Warmed39 s.vm → IB s vm0 [] → s.heap = h → p.tables.exec = Jvm.exec → c.code = bytes → c.maxLocals = maxL → meth.sig.returnType = ret → meth.locks = false → Z.Warmed39 (s.setVm vm0).vm → (s.setVm vm0).vm.findClass y.cls = some m.cls → meth.name = y.name → T.heap = h →
      own_GoW p e below s Z Q kc ks (T.setTop (entryFrame m as' maxL))) :
    MetFree l y (head1 (Jvm.Cond.code y bytes maxL ret :: ws) rm) (fun a U => a = as' ∧ Z.Warmed39 U.vm ∧ U.heap = h ∧ own_J Z U.vm U.heap) (fun _ _ _ _ _ => True) (fun _ U o U' => ∃ v L, o = .returned v ∧ (Q v U'.heap L ∧ own_J Z U'.vm U'.heap) ∧ ReturnedEndW U o U' L kc ks) := by
  refine MetFree.of_bodySF hpl hisR ?_
  intro p e s m args below meth c s₁ Bd hml hP hK
  obtain ⟨rfl, hZ, hh, hJ⟩ := hP
  obtain ⟨t, o, h1, h2, h3, h4⟩ := body p e s s.vm m below meth c s₁ (Stand.of_body Bd) ((State.WarmedH.refl s).since _) (by rw [← hh]; exact hJ) hJ hZ IB.start hh Bd.exec Bd.bytes hml Bd.returns Bd.notSynchronized hZ (findClass_of_methodNamed Bd.named) (name_of_methodNamed Bd.named Bd.method).1 (by rw [← hh, Bd.state]; rfl)
  exact ⟨t, o, h1, h2, h3, h4⟩
abbrev own_MetW (l : Launch) (Z : State) (h : Heap) (y : MethodName) (bytes : ByteArray) (maxL : Nat) (ret : Option FieldType) (rm : Room) (as' : Array Value) (Q : Option Value → Heap → List Loc → Prop) : Prop :=
  MetFree l y (head1 [Jvm.Cond.code y bytes maxL ret] rm) (fun a U => a = as' ∧ Z.Warmed39 U.vm ∧ U.heap = h ∧ own_J Z U.vm U.heap) (fun _ _ _ _ _ => True) (fun _ U o U' => ∃ v L, o = .returned v ∧ (Q v U'.heap L ∧ own_J Z U'.vm U'.heap) ∧ ReturnedEndW U o U' L rm.cells rm.slots)
end OwnKitW
section OwnBackJ
variable {p : Program} {l : Launch} {e : Env} {R : Room} {s : State} {vm0 : Vm} {m : MethodId} {args : Array Value} {below : List Frame} {meth : Method} {c : Code} {T : State} {locs : List Loc} {cells slots kc ks : Nat} {Z : State} {a0 : Array Value} {h : Heap} {Q : Option Value → Heap → List Loc → Prop}
theorem own_backJ {y : MethodName} {bytes : ByteArray} {maxL : Nat} {ret : Option FieldType} {rm : Room} {len W : Nat} {as' : Array Value} (hM : own_MetW l Z h y bytes maxL ret rm as' Q) (L : own_L Z a0)
    (hZ : Z.Warmed39 s.vm) (hJ : own_J Z s.vm h) (wc : (Jvm.Cond.code y bytes maxL ret).before a0 Z = true) (wz : (Jvm.Cond.initialized y.cls).before a0 Z = true) (hf : rm.frames + 1 ≤ R.frames) (hl : W + (maxL + 11) + rm.locals ≤ R.locals) :
    BackS l R p e below s args y len W (fun A a => a = as' ∧ A.U.heap = h ∧ A.cells + rm.cells ≤ R.cells ∧ A.slots + rm.slots ≤ R.slots)
      (fun A _ v B => ∃ L, (Q v B.U.heap L ∧ own_J Z B.U.vm B.U.heap) ∧ B.locs = A.locs ++ L ∧ B.cells = A.cells + rm.cells ∧ B.slots = A.slots + rm.slots) :=
  BackS.of_freeW (bytes := bytes) (maxL := maxL) (ret := ret) (E := fun _ _ o t L k n => k = rm.cells ∧ n = rm.slots ∧ ∃ v, o = .returned v ∧ (Q v t.heap L ∧ own_J Z t.vm t.heap)) hM hf hl
    (fun m meth c A a Y hp => have hU : Z.Warmed39 A.U.vm := wtrans hZ Y.warmed
      ⟨by show (Jvm.Cond.and _ .tt).before a A.U = true; rw [Cond.before_and, mv hU wc]; rfl, mv hU wc, mv hU wz, hp.2.2.1, hp.2.2.2⟩)
    (fun m meth c A a g mk Y hp => ⟨hp.1, wtrans hZ Y.warmed, hp.2.1, by
      have q : own_J Z A.U.vm h := own_Jwarm (s := s) L hZ hJ Y.warmed
      rw [← hp.2.1] at q; exact q⟩) (fun _ _ _ _ _ _ _ _ _ => trivial)
    (fun _ _ _ _ ⟨v, L, h1, h2, h3⟩ => ⟨L, _, _, h3, rfl, rfl, v, h1, h2⟩)
    (fun m meth c A a g mk v t L k n Y hp _ _ ⟨e1, e2, v', e3, e4⟩ => by cases e3; subst e1 e2; exact ⟨L, e4, rfl, rfl, rfl⟩)
end OwnBackJ
section OwnKitW2
variable {p : Program} {l : Launch} {e : Env} {R : Room} {s : State} {vm0 : Vm} {m : MethodId} {args : Array Value} {below : List Frame} {meth : Method} {c : Code} {T : State} {locs : List Loc} {cells slots kc ks : Nat} {Z : State} {a0 : Array Value} {h : Heap} {Q : Option Value → Heap → List Loc → Prop}
theorem own_callSW {y : MethodName} {bytes : ByteArray} {maxL : Nat} {ret : Option FieldType} {rm : Room} {as' : Array Value} {own : String} {index : Nat} (X : Stand p l e R (s.setVm vm0) m args below meth c T locs cells slots) (hS : s.Since vm0 h.size) (hL : own_L Z a0) (hJ : own_J Z vm0 h) (hx : p.tables.exec = Jvm.exec) (hZ : Z.Warmed39 (s.setVm vm0).vm) (hown : (s.setVm vm0).vm.findClass own = some m.cls)
    (w1 : (Jvm.Cond.methodLink own index y).before a0 Z = true) (w2 : (Jvm.Cond.static y).before a0 Z = true) (w3 : (Jvm.Cond.initialized y.cls).before a0 Z = true) (w4 : (Jvm.Cond.code y bytes maxL ret).before a0 Z = true) (hM : own_MetW l Z h y bytes maxL ret rm as' Q) (W : Nat) (nc ns : Nat) 
    (hc : cells + nc ≤ R.cells) (hs : slots + ns ≤ R.slots) (eT : T.heap = h) {g : JFrame} (hg : g.method = m) (hsize : g.locals.size = c.maxLocals)
    (argsL rest : List Value) (hlen : ∀ sig, parseMethodDescriptor y.desc = some sig → argsL.length = sig.parameters.length) (hstack : g.stack = argsL.reverse ++ rest) (has : argsL.toArray = as') (hdg : decode c.code g.pc = .ok (.invokestatic index, 3))
    (hy : y.cls ≠ "java/lang/invoke/MethodHandle" ∧ y.cls ≠ "java/lang/invoke/VarHandle" := by decide) (hf : rm.frames + 1 ≤ R.frames := by decide) (hl : W + (maxL + 11) + rm.locals ≤ R.locals := by decide) (hW : 2 * g.monitorRoom + (rest.map fun v => v.category).sum ≤ W := by exact Nat.le_of_eq rfl) (hnc : rm.cells = nc := by rfl) (hns : rm.slots = ns := by rfl) :
    ∃ v T' L, Stand p l e R (s.setVm T'.vm) m args below meth c T' (locs ++ L) (cells + nc) (slots + ns) ∧ s.Since T'.vm T'.heap.size ∧ Z.Warmed39 (s.setVm T'.vm).vm ∧ (s.setVm T'.vm).vm.findClass own = some m.cls ∧ Q v T'.heap L ∧ own_J Z T'.vm T'.heap ∧ ∀ target, Steps p.tables e below (T'.setTop { g with pc := g.pc + 3, stack := v.toList ++ rest }) target → Steps p.tables e below (T.setTop g) target := by
  subst hnc hns
  obtain ⟨v, _, ⟨T', L', k', n'⟩, -, X', hS', hgr, ⟨L, ⟨hQ, hJ'⟩, h1, h2, h3⟩, st⟩ := callSS X hx hown (mvT hZ w1) (mvT hZ w2) (mvT hZ w3) (mvT hZ w4) hy (own_backJ (W := W) hM hL hZ hJ w4 w3 hf hl) hg hsize hlen hstack hW hdg (fun _ _ => ⟨has, eT, hc, hs⟩)
  dsimp only [Pt.U, Pt.locs, Pt.cells, Pt.slots] at X' hS' hgr hQ hJ' h1 h2 h3 st
  subst h1 h2 h3
  have hS2 : s.Since T'.vm T'.heap.size := hS.trans hS' (by rw [← eT]; exact hgr)
  exact ⟨v, T', L, X', hS2, State.Warmed39.trans (t := s.setVm vm0) hZ hS'.1, by rw [show (s.setVm T'.vm).vm = T'.vm from rfl, hS'.1.alike.findClass]; exact hown, hQ, hJ', fun _ k => st.trans k⟩
theorem own_callIW {y : MethodName} {bytes : ByteArray} {maxL : Nat} {rm : Room} {as' : Array Value} {own : String} {index : Nat} (X : Stand p l e R (s.setVm vm0) m args below meth c T locs cells slots) (hS : s.Since vm0 h.size) (hL : own_L Z a0) (hJ : own_J Z vm0 h) (hx : p.tables.exec = Jvm.exec) (hZ : Z.Warmed39 (s.setVm vm0).vm) (hown : (s.setVm vm0).vm.findClass own = some m.cls)
    (w1 : (Jvm.Cond.methodLink own index y).before a0 Z = true) (w2 : (Jvm.Cond.instanceMethod y).before a0 Z = true) (w3 : (Jvm.Cond.initialized y.cls).before a0 Z = true) (w4 : (Jvm.Cond.code y bytes maxL none).before a0 Z = true) (hM : own_MetW l Z h y bytes maxL none rm as' Q) (W : Nat) (nc ns : Nat) (hy1 : y.name = "<init>")
    (hc : cells + nc ≤ R.cells) (hs : slots + ns ≤ R.slots) (eT : T.heap = h) {g : JFrame} (hg : g.method = m) (hsize : g.locals.size = c.maxLocals)
    (a : Addr) (argsL rest : List Value) (hlen : ∀ sig, parseMethodDescriptor y.desc = some sig → argsL.length = sig.parameters.length) (hstack : g.stack = argsL.reverse ++ .ref a :: rest) (has : (Value.ref a :: argsL).toArray = as') (hdg : decode c.code g.pc = .ok (.invokespecial index, 3))
    (hy : y.cls ≠ "java/lang/invoke/MethodHandle" ∧ y.cls ≠ "java/lang/invoke/VarHandle" := by decide) (hf : rm.frames + 1 ≤ R.frames := by decide) (hl : W + (maxL + 11) + rm.locals ≤ R.locals := by decide) (hW : 2 * g.monitorRoom + (rest.map fun v => v.category).sum ≤ W := by exact Nat.le_of_eq rfl) (hnc : rm.cells = nc := by rfl) (hns : rm.slots = ns := by rfl) :
    ∃ v T' L, Stand p l e R (s.setVm T'.vm) m args below meth c T' (locs ++ L) (cells + nc) (slots + ns) ∧ s.Since T'.vm T'.heap.size ∧ Z.Warmed39 (s.setVm T'.vm).vm ∧ (s.setVm T'.vm).vm.findClass own = some m.cls ∧ Q v T'.heap L ∧ own_J Z T'.vm T'.heap ∧ ∀ target, Steps p.tables e below (T'.setTop { g with pc := g.pc + 3, stack := v.toList ++ rest }) target → Steps p.tables e below (T.setTop g) target := by
  subst hnc hns
  obtain ⟨v, _, ⟨T', L', k', n'⟩, -, X', hS', hgr, ⟨L, ⟨hQ, hJ'⟩, h1, h2, h3⟩, st⟩ := X.specialBackS hx hy1 hown (mvT hZ w1) (mvT hZ w2) (mvT hZ w4) hy (own_backJ (W := W) hM hL hZ hJ w4 w3 hf hl) hg hsize (Steps.refl _) (a := a) (argsL := argsL) (rest := rest) hlen hstack hW hdg (fun _ _ => ⟨has, eT, hc, hs⟩)
  dsimp only [Pt.U, Pt.locs, Pt.cells, Pt.slots] at X' hS' hgr hQ hJ' h1 h2 h3 st
  subst h1 h2 h3
  have hS2 : s.Since T'.vm T'.heap.size := hS.trans hS' (by rw [← eT]; exact hgr)
  exact ⟨v, T', L, X', hS2, State.Warmed39.trans (t := s.setVm vm0) hZ hS'.1, by rw [show (s.setVm T'.vm).vm = T'.vm from rfl, hS'.1.alike.findClass]; exact hown, hQ, hJ', fun _ k => st.trans k⟩
theorem own_callVW {y z : MethodName} {bytes : ByteArray} {maxL : Nat} {ret : Option FieldType} {rm : Room} {as' : Array Value} {own C : String} {index : Nat} (X : Stand p l e R (s.setVm vm0) m args below meth c T locs cells slots) (hS : s.Since vm0 h.size) (hL : own_L Z a0) (hJ : own_J Z vm0 h) (hx : p.tables.exec = Jvm.exec) (hZ : Z.Warmed39 (s.setVm vm0).vm) (hown : (s.setVm vm0).vm.findClass own = some m.cls)
    (w1 : (Jvm.Cond.methodLink own index y).before a0 Z = true) (wd : (Jvm.Cond.declares y).before a0 Z = true) (nf : NotFace (s.setVm vm0) y) (wsel : (Jvm.Cond.selects C y z).before a0 Z = true) (w2 : (Jvm.Cond.instanceMethod z).before a0 Z = true) (w3 : (Jvm.Cond.initialized z.cls).before a0 Z = true) (w4 : (Jvm.Cond.code z bytes maxL ret).before a0 Z = true) (hM : own_MetW l Z h z bytes maxL ret rm as' Q) (W : Nat) (nc ns : Nat) 
    (hc : cells + nc ≤ R.cells) (hs : slots + ns ≤ R.slots) (eT : T.heap = h) {a : Addr} (E : Exa Z h a C) {g : JFrame} (hg : g.method = m) (hsize : g.locals.size = c.maxLocals)
    (argsL rest : List Value) (hlen : ∀ sig, parseMethodDescriptor y.desc = some sig → argsL.length = sig.parameters.length) (hstack : g.stack = argsL.reverse ++ .ref a :: rest) (has : (Value.ref a :: argsL).toArray = as') (hdg : decode c.code g.pc = .ok (.invokevirtual index, 3))
    (hy : y.cls ≠ "java/lang/invoke/MethodHandle" ∧ y.cls ≠ "java/lang/invoke/VarHandle" := by decide) (hf : rm.frames + 1 ≤ R.frames := by decide) (hl : W + (maxL + 11) + rm.locals ≤ R.locals := by decide) (hW : 2 * g.monitorRoom + (rest.map fun v => v.category).sum ≤ W := by exact Nat.le_of_eq rfl) (hnc : rm.cells = nc := by rfl) (hns : rm.slots = ns := by rfl) :
    ∃ v T' L, Stand p l e R (s.setVm T'.vm) m args below meth c T' (locs ++ L) (cells + nc) (slots + ns) ∧ s.Since T'.vm T'.heap.size ∧ Z.Warmed39 (s.setVm T'.vm).vm ∧ (s.setVm T'.vm).vm.findClass own = some m.cls ∧ Q v T'.heap L ∧ own_J Z T'.vm T'.heap ∧ ∀ target, Steps p.tables e below (T'.setTop { g with pc := g.pc + 3, stack := v.toList ++ rest }) target → Steps p.tables e below (T.setTop g) target := by
  subst hnc hns
  obtain ⟨cq, kq, qa, qb, qc⟩ := isOf hZ eT E
  obtain ⟨v, _, ⟨T', L', k', n'⟩, -, X', hS', hgr, ⟨L, ⟨hQ, hJ'⟩, h1, h2, h3⟩, st⟩ := X.virtualBackS hx hown (mvT hZ w1) (mvT hZ wd) nf (mvT hZ wsel) (mvT hZ w2) hy (own_backJ (W := W) hM hL hZ hJ w4 w3 hf hl) qa qc hg hsize (Steps.refl _) (argsL := argsL) (rest := rest) hlen hstack hW hdg (fun _ _ => ⟨has, eT, hc, hs⟩)
  dsimp only [Pt.U, Pt.locs, Pt.cells, Pt.slots] at X' hS' hgr hQ hJ' h1 h2 h3 st
  subst h1 h2 h3
  have hS2 : s.Since T'.vm T'.heap.size := hS.trans hS' (by rw [← eT]; exact hgr)
  exact ⟨v, T', L, X', hS2, State.Warmed39.trans (t := s.setVm vm0) hZ hS'.1, by rw [show (s.setVm T'.vm).vm = T'.vm from rfl, hS'.1.alike.findClass]; exact hown, hQ, hJ', fun _ k => st.trans k⟩
theorem own_callPW {y : MethodName} {bytes : ByteArray} {maxL : Nat} {ret : Option FieldType} {rm : Room} {as' : Array Value} {own C : String} {index : Nat} (X : Stand p l e R (s.setVm vm0) m args below meth c T locs cells slots) (hS : s.Since vm0 h.size) (hL : own_L Z a0) (hJ : own_J Z vm0 h) (hx : p.tables.exec = Jvm.exec) (hZ : Z.Warmed39 (s.setVm vm0).vm) (hown : (s.setVm vm0).vm.findClass own = some m.cls)
    (w1 : (Jvm.Cond.methodLink own index y).before a0 Z = true) (w2 : (Jvm.Cond.instanceMethod y).before a0 Z = true) (wsel : (Jvm.Cond.selects y.cls y y).before a0 Z = true) (wp : (Jvm.Cond.privateMethod y).before a0 Z = true) (w3 : (Jvm.Cond.initialized y.cls).before a0 Z = true) (w4 : (Jvm.Cond.code y bytes maxL ret).before a0 Z = true) (hM : own_MetW l Z h y bytes maxL ret rm as' Q) (W : Nat) (nc ns : Nat) 
    (hc : cells + nc ≤ R.cells) (hs : slots + ns ≤ R.slots) (eT : T.heap = h) {a : Addr} (E : Exa Z h a C) {g : JFrame} (hg : g.method = m) (hsize : g.locals.size = c.maxLocals)
    (argsL rest : List Value) (hlen : ∀ sig, parseMethodDescriptor y.desc = some sig → argsL.length = sig.parameters.length) (hstack : g.stack = argsL.reverse ++ .ref a :: rest) (has : (Value.ref a :: argsL).toArray = as') (hdg : decode c.code g.pc = .ok (.invokevirtual index, 3))
    (hy : y.cls ≠ "java/lang/invoke/MethodHandle" ∧ y.cls ≠ "java/lang/invoke/VarHandle" := by decide) (hf : rm.frames + 1 ≤ R.frames := by decide) (hl : W + (maxL + 11) + rm.locals ≤ R.locals := by decide) (hW : 2 * g.monitorRoom + (rest.map fun v => v.category).sum ≤ W := by exact Nat.le_of_eq rfl) (hnc : rm.cells = nc := by rfl) (hns : rm.slots = ns := by rfl) :
    ∃ v T' L, Stand p l e R (s.setVm T'.vm) m args below meth c T' (locs ++ L) (cells + nc) (slots + ns) ∧ s.Since T'.vm T'.heap.size ∧ Z.Warmed39 (s.setVm T'.vm).vm ∧ (s.setVm T'.vm).vm.findClass own = some m.cls ∧ Q v T'.heap L ∧ own_J Z T'.vm T'.heap ∧ ∀ target, Steps p.tables e below (T'.setTop { g with pc := g.pc + 3, stack := v.toList ++ rest }) target → Steps p.tables e below (T.setTop g) target := by
  subst hnc hns
  obtain ⟨cq, q1, q2⟩ := E.cell
  obtain ⟨v, _, ⟨T', L', k', n'⟩, -, X', hS', hgr, ⟨L, ⟨hQ, hJ'⟩, h1, h2, h3⟩, st⟩ := X.privateBackS hx hown (mvT hZ w1) (mvT hZ w2) (mvT hZ wsel) (Cond.privateMethod_at (mvP hZ wp (args := #[]))) (mvT hZ w4) hy (own_backJ (W := W) hM hL hZ hJ w4 w3 hf hl) hg hsize (Steps.refl _) (a := a) (by rw [eT]; exact q1) q2 (argsL := argsL) (rest := rest) hlen hstack hW hdg (fun _ _ => ⟨has, eT, hc, hs⟩)
  dsimp only [Pt.U, Pt.locs, Pt.cells, Pt.slots] at X' hS' hgr hQ hJ' h1 h2 h3 st
  subst h1 h2 h3
  have hS2 : s.Since T'.vm T'.heap.size := hS.trans hS' (by rw [← eT]; exact hgr)
  exact ⟨v, T', L, X', hS2, State.Warmed39.trans (t := s.setVm vm0) hZ hS'.1, by rw [show (s.setVm T'.vm).vm = T'.vm from rfl, hS'.1.alike.findClass]; exact hown, hQ, hJ', fun _ k => st.trans k⟩
theorem own_callFW {xi y : MethodName} {bytes : ByteArray} {maxL : Nat} {ret : Option FieldType} {rm : Room} {as' : Array Value} {own C : String} {index count : Nat} (X : Stand p l e R (s.setVm vm0) m args below meth c T locs cells slots) (hS : s.Since vm0 h.size) (hL : own_L Z a0) (hJ : own_J Z vm0 h) (hx : p.tables.exec = Jvm.exec) (hZ : Z.Warmed39 (s.setVm vm0).vm) (hown : (s.setVm vm0).vm.findClass own = some m.cls)
    (w1 : (Jvm.Cond.methodLink own index xi).before a0 Z = true) (wd : (Jvm.Cond.declares xi).before a0 Z = true) (wfa : (Jvm.Cond.interfaceMethod xi.cls xi.cls xi.name xi.desc).before a0 Z = true) (wsel : (Jvm.Cond.selects C xi y).before a0 Z = true) (w2 : (Jvm.Cond.instanceMethod y).before a0 Z = true) (wp : (Jvm.Cond.publicMethod y).before a0 Z = true) (wu : (Jvm.Cond.unhidden C xi.name xi.desc).before a0 Z = true) (wk : (Jvm.Cond.castable C xi.cls).before a0 Z = true) (w3 : (Jvm.Cond.initialized y.cls).before a0 Z = true) (w4 : (Jvm.Cond.code y bytes maxL ret).before a0 Z = true) (hfk : ((Jvm.Cond.interfaceMethod xi.cls xi.cls xi.name xi.desc).onTables && (Jvm.Cond.interfaceMethod xi.cls xi.cls xi.name xi.desc).keepsFace) = true) (hM : own_MetW l Z h y bytes maxL ret rm as' Q) (W : Nat) (nc ns : Nat) 
    (hc : cells + nc ≤ R.cells) (hs : slots + ns ≤ R.slots) (eT : T.heap = h) {a : Addr} (E : Exa Z h a C) {g : JFrame} (hg : g.method = m) (hsize : g.locals.size = c.maxLocals)
    (argsL rest : List Value) (hlen : ∀ sig, parseMethodDescriptor xi.desc = some sig → argsL.length = sig.parameters.length) (hstack : g.stack = argsL.reverse ++ .ref a :: rest) (has : (Value.ref a :: argsL).toArray = as') (hdg : decode c.code g.pc = .ok (.invokeinterface index count, 5))
    (hy : xi.cls ≠ "java/lang/invoke/MethodHandle" ∧ xi.cls ≠ "java/lang/invoke/VarHandle" := by decide) (hf : rm.frames + 1 ≤ R.frames := by decide) (hl : W + (maxL + 11) + rm.locals ≤ R.locals := by decide) (hW : 2 * g.monitorRoom + (rest.map fun v => v.category).sum ≤ W := by exact Nat.le_of_eq rfl) (hnc : rm.cells = nc := by rfl) (hns : rm.slots = ns := by rfl) :
    ∃ v T' L, Stand p l e R (s.setVm T'.vm) m args below meth c T' (locs ++ L) (cells + nc) (slots + ns) ∧ s.Since T'.vm T'.heap.size ∧ Z.Warmed39 (s.setVm T'.vm).vm ∧ (s.setVm T'.vm).vm.findClass own = some m.cls ∧ Q v T'.heap L ∧ own_J Z T'.vm T'.heap ∧ ∀ target, Steps p.tables e below (T'.setTop { g with pc := g.pc + 5, stack := v.toList ++ rest }) target → Steps p.tables e below (T.setTop g) target := by
  subst hnc hns
  obtain ⟨cq, kq, qa, qb, qc⟩ := isOf hZ eT E
  obtain ⟨v, _, ⟨T', L', k', n'⟩, -, X', hS', hgr, ⟨L, ⟨hQ, hJ'⟩, h1, h2, h3⟩, st⟩ := X.interfaceBackS hx hown (mvT hZ w1) (mvT hZ wd) (mvT hZ wfa hfk) (mvT hZ wsel) (mvT hZ w2) (mvT hZ wp) (mvT hZ wu) (mvT hZ wk) hy (own_backJ (W := W) hM hL hZ hJ w4 w3 hf hl) qa qb qc hg hsize (Steps.refl _) (argsL := argsL) (rest := rest) hlen hstack hW hdg (fun _ _ => ⟨has, eT, hc, hs⟩)
  dsimp only [Pt.U, Pt.locs, Pt.cells, Pt.slots] at X' hS' hgr hQ hJ' h1 h2 h3 st
  subst h1 h2 h3
  have hS2 : s.Since T'.vm T'.heap.size := hS.trans hS' (by rw [← eT]; exact hgr)
  exact ⟨v, T', L, X', hS2, State.Warmed39.trans (t := s.setVm vm0) hZ hS'.1, by rw [show (s.setVm T'.vm).vm = T'.vm from rfl, hS'.1.alike.findClass]; exact hown, hQ, hJ', fun _ k => st.trans k⟩
theorem own_callUW {y z : MethodName} {bytes : ByteArray} {maxL : Nat} {ret : Option FieldType} {rm : Room} {as' : Array Value} {own owner C : String} {index : Nat} (X : Stand p l e R (s.setVm vm0) m args below meth c T locs cells slots) (hS : s.Since vm0 h.size) (hL : own_L Z a0) (hJ : own_J Z vm0 h) (hx : p.tables.exec = Jvm.exec) (hZ : Z.Warmed39 (s.setVm vm0).vm) (hown : (s.setVm vm0).vm.findClass own = some m.cls)
    (w1 : (Jvm.Cond.methodLink own index y).before a0 Z = true) (wsm : (Jvm.Cond.sameMethod y.cls owner y.name y.desc).before a0 Z = true) (wd : (Jvm.Cond.declares ⟨owner, y.name, y.desc⟩).before a0 Z = true) (wsel : (Jvm.Cond.selects C y z).before a0 Z = true) (w2 : (Jvm.Cond.instanceMethod z).before a0 Z = true) (w3 : (Jvm.Cond.initialized z.cls).before a0 Z = true) (w4 : (Jvm.Cond.code z bytes maxL ret).before a0 Z = true) (hM : own_MetW l Z h z bytes maxL ret rm as' Q) (W : Nat) (nc ns : Nat) 
    (hc : cells + nc ≤ R.cells) (hs : slots + ns ≤ R.slots) (eT : T.heap = h) {a : Addr} (E : Exa Z h a C) {g : JFrame} (hg : g.method = m) (hsize : g.locals.size = c.maxLocals)
    (argsL rest : List Value) (hlen : ∀ sig, parseMethodDescriptor y.desc = some sig → argsL.length = sig.parameters.length) (hstack : g.stack = argsL.reverse ++ .ref a :: rest) (has : (Value.ref a :: argsL).toArray = as') (hdg : decode c.code g.pc = .ok (.invokevirtual index, 3))
    (howner : owner ≠ "java/lang/invoke/MethodHandle" ∧ owner ≠ "java/lang/invoke/VarHandle" := by decide) (hf : rm.frames + 1 ≤ R.frames := by decide) (hl : W + (maxL + 11) + rm.locals ≤ R.locals := by decide) (hW : 2 * g.monitorRoom + (rest.map fun v => v.category).sum ≤ W := by exact Nat.le_of_eq rfl) (hnc : rm.cells = nc := by rfl) (hns : rm.slots = ns := by rfl) :
    ∃ v T' L, Stand p l e R (s.setVm T'.vm) m args below meth c T' (locs ++ L) (cells + nc) (slots + ns) ∧ s.Since T'.vm T'.heap.size ∧ Z.Warmed39 (s.setVm T'.vm).vm ∧ (s.setVm T'.vm).vm.findClass own = some m.cls ∧ Q v T'.heap L ∧ own_J Z T'.vm T'.heap ∧ ∀ target, Steps p.tables e below (T'.setTop { g with pc := g.pc + 3, stack := v.toList ++ rest }) target → Steps p.tables e below (T.setTop g) target := by
  subst hnc hns
  obtain ⟨cq, kq, qa, qb, qc⟩ := isOf hZ eT E
  obtain ⟨v, _, ⟨T', L', k', n'⟩, -, X', hS', hgr, ⟨L, ⟨hQ, hJ'⟩, h1, h2, h3⟩, st⟩ := X.virtualBackUpS hx hown (mvT hZ w1) (mvT hZ wsm) (mvT hZ wd) howner (mvT hZ wsel) (mvT hZ w2) (own_backJ (W := W) hM hL hZ hJ w4 w3 hf hl) qa qc hg hsize (Steps.refl _) (argsL := argsL) (rest := rest) hlen hstack hW hdg (fun _ _ => ⟨has, eT, hc, hs⟩)
  dsimp only [Pt.U, Pt.locs, Pt.cells, Pt.slots] at X' hS' hgr hQ hJ' h1 h2 h3 st
  subst h1 h2 h3
  have hS2 : s.Since T'.vm T'.heap.size := hS.trans hS' (by rw [← eT]; exact hgr)
  exact ⟨v, T', L, X', hS2, State.Warmed39.trans (t := s.setVm vm0) hZ hS'.1, by rw [show (s.setVm T'.vm).vm = T'.vm from rfl, hS'.1.alike.findClass]; exact hown, hQ, hJ', fun _ k => st.trans k⟩
end OwnKitW2
theorem own_fd0 : parseFieldDescriptor "[B" = some (.array .byte) := by decide +kernel
theorem own_fd1 : parseFieldDescriptor "B" = some .byte := by decide +kernel
theorem own_fd2 : parseFieldDescriptor "I" = some .int := by decide +kernel
theorem own_fd3 : parseFieldDescriptor "Z" = some .boolean := by decide +kernel
theorem own_fd4 : parseFieldDescriptor "Ljava/lang/String;" = some (.object "java/lang/String") := by decide +kernel
abbrev own_W (Z : State) (a0 : Array Value) : Prop := ∀ d ∈ tables_1, d.before a0 Z = true
abbrev own_y0 : MethodName := ⟨"java/lang/String", "<init>", "([CIILjava/lang/Void;)V"⟩
abbrev own_y1 : MethodName := ⟨"java/lang/String", "<init>", "([C)V"⟩
abbrev own_y2 : MethodName := ⟨"com/example/ibex/ibex/model/ApproximateNumbersHoldsPinLaw", "digit", "(I)C"⟩
abbrev own_y3 : MethodName := ⟨"java/lang/String", "coder", "()B"⟩
abbrev own_y4 : MethodName := ⟨"java/lang/String", "length", "()I"⟩
abbrev own_y5 : MethodName := ⟨"java/lang/String", "isLatin1", "()Z"⟩
abbrev own_y6 : MethodName := ⟨"jdk/internal/util/Preconditions", "checkIndex", "(IILjava/util/function/BiFunction;)I"⟩
abbrev own_y7 : MethodName := ⟨"java/lang/String", "checkIndex", "(II)V"⟩
abbrev own_y8 : MethodName := ⟨"java/lang/StringLatin1", "charAt", "([BI)C"⟩
abbrev own_y9 : MethodName := ⟨"java/lang/String", "charAt", "(I)C"⟩
abbrev own_y10 : MethodName := ⟨"jdk/internal/util/ArraysSupport", "mismatch", "([BI[BII)I"⟩
abbrev own_y11 : MethodName := ⟨"java/lang/String", "startsWith", "(Ljava/lang/String;I)Z"⟩
abbrev own_y12 : MethodName := ⟨"java/lang/String", "startsWith", "(Ljava/lang/String;)Z"⟩
abbrev own_y13 : MethodName := ⟨"java/lang/StringLatin1", "canEncode", "(I)Z"⟩
abbrev own_y14 : MethodName := ⟨"java/lang/Math", "max", "(II)I"⟩
abbrev own_y15 : MethodName := ⟨"java/lang/Math", "min", "(II)I"⟩
abbrev own_y16 : MethodName := ⟨"java/lang/StringLatin1", "indexOfChar", "([BIII)I"⟩
abbrev own_y17 : MethodName := ⟨"java/lang/StringLatin1", "indexOf", "([BIII)I"⟩
abbrev own_y18 : MethodName := ⟨"java/lang/String", "indexOf", "(II)I"⟩
abbrev own_y19 : MethodName := ⟨"java/lang/String", "indexOf", "(I)I"⟩
abbrev own_y20 : MethodName := ⟨"com/example/ibex/ibex/model/Constant", "digits", "(Ljava/lang/String;II)Z"⟩
abbrev own_y21 : MethodName := ⟨"jdk/internal/util/Preconditions", "checkFromToIndex", "(IIILjava/util/function/BiFunction;)I"⟩
abbrev own_y22 : MethodName := ⟨"java/lang/String", "checkBoundsBeginEnd", "(III)V"⟩
abbrev own_y23 : MethodName := ⟨"java/util/Arrays", "checkLength", "(II)V"⟩
abbrev own_y24 : MethodName := ⟨"java/util/Arrays", "copyOfRangeByte", "([BII)[B"⟩
abbrev own_y25 : MethodName := ⟨"java/util/Arrays", "copyOfRange", "([BII)[B"⟩
abbrev own_y26 : MethodName := ⟨"java/lang/String", "<init>", "([BB)V"⟩
abbrev own_y27 : MethodName := ⟨"java/lang/StringLatin1", "newString", "([BII)Ljava/lang/String;"⟩
abbrev own_y28 : MethodName := ⟨"java/lang/String", "substring", "(II)Ljava/lang/String;"⟩
abbrev own_y29 : MethodName := ⟨"java/lang/StringLatin1", "equals", "([B[B)Z"⟩
abbrev own_y30 : MethodName := ⟨"java/lang/String", "equals", "(Ljava/lang/Object;)Z"⟩
abbrev own_y31 : MethodName := ⟨"java/lang/AbstractStringBuilder", "<init>", "(I)V"⟩
abbrev own_y32 : MethodName := ⟨"java/lang/StringBuilder", "<init>", "()V"⟩
abbrev own_y33 : MethodName := ⟨"java/lang/AbstractStringBuilder", "inflateIfNeededFor", "(Ljava/lang/String;)V"⟩
abbrev own_y34 : MethodName := ⟨"java/lang/AbstractStringBuilder", "ensureCapacityInternal", "(I)V"⟩
abbrev own_y35 : MethodName := ⟨"java/lang/String", "getBytes", "([BIB)V"⟩
abbrev own_y36 : MethodName := ⟨"java/lang/AbstractStringBuilder", "putStringAt", "(ILjava/lang/String;)V"⟩
abbrev own_y37 : MethodName := ⟨"java/lang/AbstractStringBuilder", "append", "(Ljava/lang/String;)Ljava/lang/AbstractStringBuilder;"⟩
abbrev own_y38 : MethodName := ⟨"java/lang/StringBuilder", "append", "(Ljava/lang/String;)Ljava/lang/StringBuilder;"⟩
abbrev own_y39 : MethodName := ⟨"java/lang/AbstractStringBuilder", "getValue", "()[B"⟩
abbrev own_y40 : MethodName := ⟨"java/lang/AbstractStringBuilder", "length", "()I"⟩
abbrev own_y41 : MethodName := ⟨"java/lang/StringBuilder", "length", "()I"⟩
abbrev own_y42 : MethodName := ⟨"java/lang/AbstractStringBuilder", "isLatin1", "()Z"⟩
abbrev own_y43 : MethodName := ⟨"java/lang/String", "<init>", "(Ljava/lang/AbstractStringBuilder;Ljava/lang/Void;)V"⟩
abbrev own_y44 : MethodName := ⟨"java/lang/String", "<init>", "(Ljava/lang/StringBuilder;)V"⟩
abbrev own_y45 : MethodName := ⟨"java/lang/StringBuilder", "toString", "()Ljava/lang/String;"⟩
abbrev own_y46 : MethodName := ⟨"com/example/ibex/ibex/model/Constant", "plainDigits", "(Ljava/lang/String;)Ljava/lang/String;"⟩
abbrev own_y47 : MethodName := ⟨"java/lang/Record", "<init>", "()V"⟩
abbrev own_y48 : MethodName := ⟨"java/util/Objects", "requireNonNull", "(Ljava/lang/Object;Ljava/lang/String;)Ljava/lang/Object;"⟩
abbrev own_y49 : MethodName := ⟨"com/example/ibex/ibex/model/Constant", "<init>", "(ZLjava/lang/String;)V"⟩
abbrev own_y50 : MethodName := ⟨"com/example/ibex/ibex/model/ColumnType$ApproximateNumbers", "<init>", "()V"⟩
abbrev own_y51 : MethodName := ⟨"com/example/ibex/ibex/model/Constant", "string", "()Z"⟩
abbrev own_y52 : MethodName := ⟨"com/example/ibex/ibex/model/ColumnType$ApproximateNumbers", "holds", "(Lcom/example/ibex/ibex/model/Constant;)Z"⟩
abbrev own_y53 : MethodName := ⟨"java/lang/Object", "<init>", "()V"⟩
abbrev own_y54 : MethodName := ⟨"java/lang/System", "arraycopy", "(Ljava/lang/Object;ILjava/lang/Object;II)V"⟩
theorem ow0 {Z : State} {a0 : Array Value} (hw : own_W Z a0) : (Cond.methodLink "com/example/ibex/ibex/model/ApproximateNumbersHoldsPinLaw" (13 : Nat) own_y2).before a0 Z = true := hw _ (List.mem_of_getElem? (i := 0) rfl)
theorem ow1 {Z : State} {a0 : Array Value} (hw : own_W Z a0) : (Cond.static own_y2).before a0 Z = true := hw _ (List.mem_of_getElem? (i := 1) rfl)
theorem ow2 {Z : State} {a0 : Array Value} (hw : own_W Z a0) : (Cond.initialized "com/example/ibex/ibex/model/ApproximateNumbersHoldsPinLaw").before a0 Z = true := hw _ (List.mem_of_getElem? (i := 2) rfl)
theorem ow3 {Z : State} {a0 : Array Value} (hw : own_W Z a0) : (Cond.code own_y2 method_2_code (1 : Nat) (Option.some Jvm.ClassFile.FieldType.char)).before a0 Z = true := hw _ (List.mem_of_getElem? (i := 3) rfl)
theorem ow4 {Z : State} {a0 : Array Value} (hw : own_W Z a0) : (Cond.constant "com/example/ibex/ibex/model/ApproximateNumbersHoldsPinLaw" (7 : Nat) (2147483647 : Int32)).before a0 Z = true := hw _ (List.mem_of_getElem? (i := 4) rfl)
theorem ow5 {Z : State} {a0 : Array Value} (hw : own_W Z a0) : (Cond.classLink "com/example/ibex/ibex/model/ApproximateNumbersHoldsPinLaw" (8 : Nat) "java/lang/String").before a0 Z = true := hw _ (List.mem_of_getElem? (i := 5) rfl)
theorem ow6 {Z : State} {a0 : Array Value} (hw : own_W Z a0) : (Cond.instantiable "java/lang/String" (4 : Nat)).before a0 Z = true := hw _ (List.mem_of_getElem? (i := 6) rfl)
theorem ow7 {Z : State} {a0 : Array Value} (hw : own_W Z a0) : (Cond.initialized "java/lang/String").before a0 Z = true := hw _ (List.mem_of_getElem? (i := 7) rfl)
theorem ow8 {Z : State} {a0 : Array Value} (hw : own_W Z a0) : (Cond.arrayClass Jvm.ClassFile.FieldType.char).before a0 Z = true := hw _ (List.mem_of_getElem? (i := 8) rfl)
theorem ow9 {Z : State} {a0 : Array Value} (hw : own_W Z a0) : (Cond.methodLink "com/example/ibex/ibex/model/ApproximateNumbersHoldsPinLaw" (10 : Nat) own_y1).before a0 Z = true := hw _ (List.mem_of_getElem? (i := 9) rfl)
theorem ow10 {Z : State} {a0 : Array Value} (hw : own_W Z a0) : (Cond.instanceMethod own_y1).before a0 Z = true := hw _ (List.mem_of_getElem? (i := 10) rfl)
theorem ow11 {Z : State} {a0 : Array Value} (hw : own_W Z a0) : (Cond.code own_y1 jdk_42_method_3_code (2 : Nat) (Option.none : Option Jvm.ClassFile.FieldType)).before a0 Z = true := hw _ (List.mem_of_getElem? (i := 11) rfl)
theorem ow12 {Z : State} {a0 : Array Value} (hw : own_W Z a0) : (Cond.methodLink "java/lang/String" (27 : Nat) own_y0).before a0 Z = true := hw _ (List.mem_of_getElem? (i := 12) rfl)
theorem ow13 {Z : State} {a0 : Array Value} (hw : own_W Z a0) : (Cond.instanceMethod own_y0).before a0 Z = true := hw _ (List.mem_of_getElem? (i := 13) rfl)
theorem ow15 {Z : State} {a0 : Array Value} (hw : own_W Z a0) : (Cond.code own_y0 jdk_42_method_149_code (6 : Nat) (Option.none : Option Jvm.ClassFile.FieldType)).before a0 Z = true := hw _ (List.mem_of_getElem? (i := 15) rfl)
theorem ow16 {Z : State} {a0 : Array Value} (hw : own_W Z a0) : (Cond.methodLink "java/lang/String" (1 : Nat) own_y53).before a0 Z = true := hw _ (List.mem_of_getElem? (i := 16) rfl)
theorem ow17 {Z : State} {a0 : Array Value} (hw : own_W Z a0) : (Cond.instanceMethod own_y53).before a0 Z = true := hw _ (List.mem_of_getElem? (i := 17) rfl)
theorem ow18 {Z : State} {a0 : Array Value} (hw : own_W Z a0) : (Cond.code own_y53 object_method_1_code (1 : Nat) (Option.none : Option Jvm.ClassFile.FieldType)).before a0 Z = true := hw _ (List.mem_of_getElem? (i := 18) rfl)
theorem ow19 {Z : State} {a0 : Array Value} (hw : own_W Z a0) : (Cond.fieldLink "java/lang/String" (38 : Nat) "java/lang/String" "COMPACT_STRINGS" "Z").before a0 Z = true := hw _ (List.mem_of_getElem? (i := 19) rfl)
theorem ow24 {Z : State} {a0 : Array Value} (hw : own_W Z a0) : (Cond.arrayClass Jvm.ClassFile.FieldType.byte).before a0 Z = true := hw _ (List.mem_of_getElem? (i := 24) rfl)
theorem ow31 {Z : State} {a0 : Array Value} (hw : own_W Z a0) : (Cond.fieldLink "java/lang/String" (15 : Nat) "java/lang/String" "coder" "B").before a0 Z = true := hw _ (List.mem_of_getElem? (i := 31) rfl)
theorem ow32 {Z : State} {a0 : Array Value} (hw : own_W Z a0) : (Cond.laysFinal "java/lang/String" "java/lang/String" "coder" "B").before a0 Z = true := hw _ (List.mem_of_getElem? (i := 32) rfl)
theorem ow33 {Z : State} {a0 : Array Value} (hw : own_W Z a0) : (Cond.fieldLink "java/lang/String" (9 : Nat) "java/lang/String" "value" "[B").before a0 Z = true := hw _ (List.mem_of_getElem? (i := 33) rfl)
theorem ow34 {Z : State} {a0 : Array Value} (hw : own_W Z a0) : (Cond.laysFinal "java/lang/String" "java/lang/String" "value" "[B").before a0 Z = true := hw _ (List.mem_of_getElem? (i := 34) rfl)
theorem ow35 {Z : State} {a0 : Array Value} (hw : own_W Z a0) : (Cond.classLink "com/example/ibex/ibex/model/ApproximateNumbersHoldsPinLaw" (19 : Nat) "com/example/ibex/ibex/model/Constant").before a0 Z = true := hw _ (List.mem_of_getElem? (i := 35) rfl)
theorem ow36 {Z : State} {a0 : Array Value} (hw : own_W Z a0) : (Cond.instantiable "com/example/ibex/ibex/model/Constant" (2 : Nat)).before a0 Z = true := hw _ (List.mem_of_getElem? (i := 36) rfl)
theorem ow37 {Z : State} {a0 : Array Value} (hw : own_W Z a0) : (Cond.initialized "com/example/ibex/ibex/model/Constant").before a0 Z = true := hw _ (List.mem_of_getElem? (i := 37) rfl)
theorem ow38 {Z : State} {a0 : Array Value} (hw : own_W Z a0) : (Cond.methodLink "com/example/ibex/ibex/model/ApproximateNumbersHoldsPinLaw" (21 : Nat) own_y49).before a0 Z = true := hw _ (List.mem_of_getElem? (i := 38) rfl)
theorem ow39 {Z : State} {a0 : Array Value} (hw : own_W Z a0) : (Cond.instanceMethod own_y49).before a0 Z = true := hw _ (List.mem_of_getElem? (i := 39) rfl)
theorem ow40 {Z : State} {a0 : Array Value} (hw : own_W Z a0) : (Cond.code own_y49 prog_69_method_1_code (3 : Nat) (Option.none : Option Jvm.ClassFile.FieldType)).before a0 Z = true := hw _ (List.mem_of_getElem? (i := 40) rfl)
theorem ow41 {Z : State} {a0 : Array Value} (hw : own_W Z a0) : (Cond.methodLink "com/example/ibex/ibex/model/Constant" (1 : Nat) own_y47).before a0 Z = true := hw _ (List.mem_of_getElem? (i := 41) rfl)
theorem ow42 {Z : State} {a0 : Array Value} (hw : own_W Z a0) : (Cond.instanceMethod own_y47).before a0 Z = true := hw _ (List.mem_of_getElem? (i := 42) rfl)
theorem ow44 {Z : State} {a0 : Array Value} (hw : own_W Z a0) : (Cond.initialized "java/lang/Record").before a0 Z = true := hw _ (List.mem_of_getElem? (i := 44) rfl)
theorem ow45 {Z : State} {a0 : Array Value} (hw : own_W Z a0) : (Cond.code own_y47 jdk_30_method_1_code (1 : Nat) (Option.none : Option Jvm.ClassFile.FieldType)).before a0 Z = true := hw _ (List.mem_of_getElem? (i := 45) rfl)
theorem ow46 {Z : State} {a0 : Array Value} (hw : own_W Z a0) : (Cond.methodLink "java/lang/Record" (1 : Nat) own_y53).before a0 Z = true := hw _ (List.mem_of_getElem? (i := 46) rfl)
theorem ow47 {Z : State} {a0 : Array Value} (hw : own_W Z a0) : (Cond.stringLink "com/example/ibex/ibex/model/Constant" (7 : Nat) "text").before a0 Z = true := hw _ (List.mem_of_getElem? (i := 47) rfl)
theorem ow48 {Z : State} {a0 : Array Value} (hw : own_W Z a0) : (Cond.soleField "java/lang/String" "value").before a0 Z = true := hw _ (List.mem_of_getElem? (i := 48) rfl)
theorem ow49 {Z : State} {a0 : Array Value} (hw : own_W Z a0) : (Cond.soleField "java/lang/String" "coder").before a0 Z = true := hw _ (List.mem_of_getElem? (i := 49) rfl)
theorem ow50 {Z : State} {a0 : Array Value} (hw : own_W Z a0) : (Cond.methodLink "com/example/ibex/ibex/model/Constant" (9 : Nat) own_y48).before a0 Z = true := hw _ (List.mem_of_getElem? (i := 50) rfl)
theorem ow51 {Z : State} {a0 : Array Value} (hw : own_W Z a0) : (Cond.static own_y48).before a0 Z = true := hw _ (List.mem_of_getElem? (i := 51) rfl)
theorem ow52 {Z : State} {a0 : Array Value} (hw : own_W Z a0) : (Cond.initialized "java/util/Objects").before a0 Z = true := hw _ (List.mem_of_getElem? (i := 52) rfl)
theorem ow53 {Z : State} {a0 : Array Value} (hw : own_W Z a0) : (Cond.code own_y48 jdk_31_method_11_code (2 : Nat) (Option.some (Jvm.ClassFile.FieldType.object "java/lang/Object"))).before a0 Z = true := hw _ (List.mem_of_getElem? (i := 53) rfl)
theorem ow54 {Z : State} {a0 : Array Value} (hw : own_W Z a0) : (Cond.methodLink "com/example/ibex/ibex/model/Constant" (15 : Nat) own_y46).before a0 Z = true := hw _ (List.mem_of_getElem? (i := 54) rfl)
theorem ow55 {Z : State} {a0 : Array Value} (hw : own_W Z a0) : (Cond.static own_y46).before a0 Z = true := hw _ (List.mem_of_getElem? (i := 55) rfl)
theorem ow56 {Z : State} {a0 : Array Value} (hw : own_W Z a0) : (Cond.code own_y46 prog_69_method_5_code (8 : Nat) (Option.some (Jvm.ClassFile.FieldType.object "java/lang/String"))).before a0 Z = true := hw _ (List.mem_of_getElem? (i := 56) rfl)
theorem ow57 {Z : State} {a0 : Array Value} (hw : own_W Z a0) : (Cond.stringLink "com/example/ibex/ibex/model/Constant" (91 : Nat) "-").before a0 Z = true := hw _ (List.mem_of_getElem? (i := 57) rfl)
theorem ow58 {Z : State} {a0 : Array Value} (hw : own_W Z a0) : (Cond.methodLink "com/example/ibex/ibex/model/Constant" (93 : Nat) own_y12).before a0 Z = true := hw _ (List.mem_of_getElem? (i := 58) rfl)
theorem ow59 {Z : State} {a0 : Array Value} (hw : own_W Z a0) : (Cond.declares own_y12).before a0 Z = true := hw _ (List.mem_of_getElem? (i := 59) rfl)
theorem ow60 {Z : State} {a0 : Array Value} (hw : own_W Z a0) : (Cond.instanceMethod own_y12).before a0 Z = true := hw _ (List.mem_of_getElem? (i := 60) rfl)
theorem ow61 {Z : State} {a0 : Array Value} (hw : own_W Z a0) : (Cond.selects "java/lang/String" own_y12 own_y12).before a0 Z = true := hw _ (List.mem_of_getElem? (i := 61) rfl)
theorem ow62 {Z : State} {a0 : Array Value} (hw : own_W Z a0) : (Cond.code own_y12 jdk_42_method_76_code (2 : Nat) (Option.some Jvm.ClassFile.FieldType.boolean)).before a0 Z = true := hw _ (List.mem_of_getElem? (i := 62) rfl)
theorem ow63 {Z : State} {a0 : Array Value} (hw : own_W Z a0) : (Cond.methodLink "java/lang/String" (624 : Nat) own_y11).before a0 Z = true := hw _ (List.mem_of_getElem? (i := 63) rfl)
theorem ow64 {Z : State} {a0 : Array Value} (hw : own_W Z a0) : (Cond.declares own_y11).before a0 Z = true := hw _ (List.mem_of_getElem? (i := 64) rfl)
theorem ow65 {Z : State} {a0 : Array Value} (hw : own_W Z a0) : (Cond.instanceMethod own_y11).before a0 Z = true := hw _ (List.mem_of_getElem? (i := 65) rfl)
theorem ow66 {Z : State} {a0 : Array Value} (hw : own_W Z a0) : (Cond.selects "java/lang/String" own_y11 own_y11).before a0 Z = true := hw _ (List.mem_of_getElem? (i := 66) rfl)
theorem ow67 {Z : State} {a0 : Array Value} (hw : own_W Z a0) : (Cond.code own_y11 jdk_42_method_75_code (8 : Nat) (Option.some Jvm.ClassFile.FieldType.boolean)).before a0 Z = true := hw _ (List.mem_of_getElem? (i := 67) rfl)
theorem ow68 {Z : State} {a0 : Array Value} (hw : own_W Z a0) : (Cond.methodLink "java/lang/String" (505 : Nat) own_y4).before a0 Z = true := hw _ (List.mem_of_getElem? (i := 68) rfl)
theorem ow69 {Z : State} {a0 : Array Value} (hw : own_W Z a0) : (Cond.declares own_y4).before a0 Z = true := hw _ (List.mem_of_getElem? (i := 69) rfl)
theorem ow70 {Z : State} {a0 : Array Value} (hw : own_W Z a0) : (Cond.instanceMethod own_y4).before a0 Z = true := hw _ (List.mem_of_getElem? (i := 70) rfl)
theorem ow71 {Z : State} {a0 : Array Value} (hw : own_W Z a0) : (Cond.selects "java/lang/String" own_y4 own_y4).before a0 Z = true := hw _ (List.mem_of_getElem? (i := 71) rfl)
theorem ow72 {Z : State} {a0 : Array Value} (hw : own_W Z a0) : (Cond.code own_y4 jdk_42_method_54_code (1 : Nat) (Option.some Jvm.ClassFile.FieldType.int)).before a0 Z = true := hw _ (List.mem_of_getElem? (i := 72) rfl)
theorem ow73 {Z : State} {a0 : Array Value} (hw : own_W Z a0) : (Cond.methodLink "java/lang/String" (335 : Nat) own_y3).before a0 Z = true := hw _ (List.mem_of_getElem? (i := 73) rfl)
theorem ow74 {Z : State} {a0 : Array Value} (hw : own_W Z a0) : (Cond.declares own_y3).before a0 Z = true := hw _ (List.mem_of_getElem? (i := 74) rfl)
theorem ow75 {Z : State} {a0 : Array Value} (hw : own_W Z a0) : (Cond.instanceMethod own_y3).before a0 Z = true := hw _ (List.mem_of_getElem? (i := 75) rfl)
theorem ow76 {Z : State} {a0 : Array Value} (hw : own_W Z a0) : (Cond.selects "java/lang/String" own_y3 own_y3).before a0 Z = true := hw _ (List.mem_of_getElem? (i := 76) rfl)
theorem ow77 {Z : State} {a0 : Array Value} (hw : own_W Z a0) : (Cond.code own_y3 jdk_42_method_152_code (1 : Nat) (Option.some Jvm.ClassFile.FieldType.byte)).before a0 Z = true := hw _ (List.mem_of_getElem? (i := 77) rfl)
theorem ow78 {Z : State} {a0 : Array Value} (hw : own_W Z a0) : (Cond.methodLink "java/lang/String" (607 : Nat) own_y10).before a0 Z = true := hw _ (List.mem_of_getElem? (i := 78) rfl)
theorem ow79 {Z : State} {a0 : Array Value} (hw : own_W Z a0) : (Cond.static own_y10).before a0 Z = true := hw _ (List.mem_of_getElem? (i := 79) rfl)
theorem ow80 {Z : State} {a0 : Array Value} (hw : own_W Z a0) : (Cond.initialized "jdk/internal/util/ArraysSupport").before a0 Z = true := hw _ (List.mem_of_getElem? (i := 80) rfl)
theorem ow81 {Z : State} {a0 : Array Value} (hw : own_W Z a0) : (Cond.code own_y10 jdk_48_method_14_code (8 : Nat) (Option.some Jvm.ClassFile.FieldType.int)).before a0 Z = true := hw _ (List.mem_of_getElem? (i := 81) rfl)
theorem ow82 {Z : State} {a0 : Array Value} (hw : own_W Z a0) : (Cond.methodLink "com/example/ibex/ibex/model/Constant" (99 : Nat) own_y19).before a0 Z = true := hw _ (List.mem_of_getElem? (i := 82) rfl)
theorem ow83 {Z : State} {a0 : Array Value} (hw : own_W Z a0) : (Cond.declares own_y19).before a0 Z = true := hw _ (List.mem_of_getElem? (i := 83) rfl)
theorem ow84 {Z : State} {a0 : Array Value} (hw : own_W Z a0) : (Cond.instanceMethod own_y19).before a0 Z = true := hw _ (List.mem_of_getElem? (i := 84) rfl)
theorem ow85 {Z : State} {a0 : Array Value} (hw : own_W Z a0) : (Cond.selects "java/lang/String" own_y19 own_y19).before a0 Z = true := hw _ (List.mem_of_getElem? (i := 85) rfl)
theorem ow86 {Z : State} {a0 : Array Value} (hw : own_W Z a0) : (Cond.code own_y19 jdk_42_method_79_code (2 : Nat) (Option.some Jvm.ClassFile.FieldType.int)).before a0 Z = true := hw _ (List.mem_of_getElem? (i := 86) rfl)
theorem ow87 {Z : State} {a0 : Array Value} (hw : own_W Z a0) : (Cond.methodLink "java/lang/String" (633 : Nat) own_y18).before a0 Z = true := hw _ (List.mem_of_getElem? (i := 87) rfl)
theorem ow88 {Z : State} {a0 : Array Value} (hw : own_W Z a0) : (Cond.declares own_y18).before a0 Z = true := hw _ (List.mem_of_getElem? (i := 88) rfl)
theorem ow89 {Z : State} {a0 : Array Value} (hw : own_W Z a0) : (Cond.instanceMethod own_y18).before a0 Z = true := hw _ (List.mem_of_getElem? (i := 89) rfl)
theorem ow90 {Z : State} {a0 : Array Value} (hw : own_W Z a0) : (Cond.selects "java/lang/String" own_y18 own_y18).before a0 Z = true := hw _ (List.mem_of_getElem? (i := 90) rfl)
theorem ow91 {Z : State} {a0 : Array Value} (hw : own_W Z a0) : (Cond.code own_y18 jdk_42_method_80_code (3 : Nat) (Option.some Jvm.ClassFile.FieldType.int)).before a0 Z = true := hw _ (List.mem_of_getElem? (i := 91) rfl)
theorem ow92 {Z : State} {a0 : Array Value} (hw : own_W Z a0) : (Cond.methodLink "java/lang/String" (492 : Nat) own_y5).before a0 Z = true := hw _ (List.mem_of_getElem? (i := 92) rfl)
theorem ow93 {Z : State} {a0 : Array Value} (hw : own_W Z a0) : (Cond.declares own_y5).before a0 Z = true := hw _ (List.mem_of_getElem? (i := 93) rfl)
theorem ow94 {Z : State} {a0 : Array Value} (hw : own_W Z a0) : (Cond.instanceMethod own_y5).before a0 Z = true := hw _ (List.mem_of_getElem? (i := 94) rfl)
theorem ow95 {Z : State} {a0 : Array Value} (hw : own_W Z a0) : (Cond.selects "java/lang/String" own_y5 own_y5).before a0 Z = true := hw _ (List.mem_of_getElem? (i := 95) rfl)
theorem ow96 {Z : State} {a0 : Array Value} (hw : own_W Z a0) : (Cond.code own_y5 jdk_42_method_154_code (1 : Nat) (Option.some Jvm.ClassFile.FieldType.boolean)).before a0 Z = true := hw _ (List.mem_of_getElem? (i := 96) rfl)
theorem ow97 {Z : State} {a0 : Array Value} (hw : own_W Z a0) : (Cond.methodLink "java/lang/String" (637 : Nat) own_y17).before a0 Z = true := hw _ (List.mem_of_getElem? (i := 97) rfl)
theorem ow98 {Z : State} {a0 : Array Value} (hw : own_W Z a0) : (Cond.static own_y17).before a0 Z = true := hw _ (List.mem_of_getElem? (i := 98) rfl)
theorem ow99 {Z : State} {a0 : Array Value} (hw : own_W Z a0) : (Cond.initialized "java/lang/StringLatin1").before a0 Z = true := hw _ (List.mem_of_getElem? (i := 99) rfl)
theorem ow100 {Z : State} {a0 : Array Value} (hw : own_W Z a0) : (Cond.code own_y17 jdk_43_method_22_code (4 : Nat) (Option.some Jvm.ClassFile.FieldType.int)).before a0 Z = true := hw _ (List.mem_of_getElem? (i := 100) rfl)
theorem ow101 {Z : State} {a0 : Array Value} (hw : own_W Z a0) : (Cond.methodLink "java/lang/StringLatin1" (88 : Nat) own_y13).before a0 Z = true := hw _ (List.mem_of_getElem? (i := 101) rfl)
theorem ow102 {Z : State} {a0 : Array Value} (hw : own_W Z a0) : (Cond.static own_y13).before a0 Z = true := hw _ (List.mem_of_getElem? (i := 102) rfl)
theorem ow103 {Z : State} {a0 : Array Value} (hw : own_W Z a0) : (Cond.code own_y13 jdk_43_method_4_code (1 : Nat) (Option.some Jvm.ClassFile.FieldType.boolean)).before a0 Z = true := hw _ (List.mem_of_getElem? (i := 103) rfl)
theorem ow104 {Z : State} {a0 : Array Value} (hw : own_W Z a0) : (Cond.methodLink "java/lang/StringLatin1" (92 : Nat) own_y14).before a0 Z = true := hw _ (List.mem_of_getElem? (i := 104) rfl)
theorem ow105 {Z : State} {a0 : Array Value} (hw : own_W Z a0) : (Cond.static own_y14).before a0 Z = true := hw _ (List.mem_of_getElem? (i := 105) rfl)
theorem ow106 {Z : State} {a0 : Array Value} (hw : own_W Z a0) : (Cond.initialized "java/lang/Math").before a0 Z = true := hw _ (List.mem_of_getElem? (i := 106) rfl)
theorem ow107 {Z : State} {a0 : Array Value} (hw : own_W Z a0) : (Cond.code own_y14 jdk_29_method_65_code (2 : Nat) (Option.some Jvm.ClassFile.FieldType.int)).before a0 Z = true := hw _ (List.mem_of_getElem? (i := 107) rfl)
theorem ow108 {Z : State} {a0 : Array Value} (hw : own_W Z a0) : (Cond.methodLink "java/lang/StringLatin1" (38 : Nat) own_y15).before a0 Z = true := hw _ (List.mem_of_getElem? (i := 108) rfl)
theorem ow109 {Z : State} {a0 : Array Value} (hw : own_W Z a0) : (Cond.static own_y15).before a0 Z = true := hw _ (List.mem_of_getElem? (i := 109) rfl)
theorem ow110 {Z : State} {a0 : Array Value} (hw : own_W Z a0) : (Cond.code own_y15 jdk_29_method_69_code (2 : Nat) (Option.some Jvm.ClassFile.FieldType.int)).before a0 Z = true := hw _ (List.mem_of_getElem? (i := 110) rfl)
theorem ow111 {Z : State} {a0 : Array Value} (hw : own_W Z a0) : (Cond.methodLink "java/lang/StringLatin1" (95 : Nat) own_y16).before a0 Z = true := hw _ (List.mem_of_getElem? (i := 111) rfl)
theorem ow112 {Z : State} {a0 : Array Value} (hw : own_W Z a0) : (Cond.static own_y16).before a0 Z = true := hw _ (List.mem_of_getElem? (i := 112) rfl)
theorem ow113 {Z : State} {a0 : Array Value} (hw : own_W Z a0) : (Cond.code own_y16 jdk_43_method_23_code (6 : Nat) (Option.some Jvm.ClassFile.FieldType.int)).before a0 Z = true := hw _ (List.mem_of_getElem? (i := 113) rfl)
theorem ow114 {Z : State} {a0 : Array Value} (hw : own_W Z a0) : (Cond.methodLink "com/example/ibex/ibex/model/Constant" (103 : Nat) own_y4).before a0 Z = true := hw _ (List.mem_of_getElem? (i := 114) rfl)
theorem ow115 {Z : State} {a0 : Array Value} (hw : own_W Z a0) : (Cond.methodLink "com/example/ibex/ibex/model/Constant" (106 : Nat) own_y20).before a0 Z = true := hw _ (List.mem_of_getElem? (i := 115) rfl)
theorem ow116 {Z : State} {a0 : Array Value} (hw : own_W Z a0) : (Cond.static own_y20).before a0 Z = true := hw _ (List.mem_of_getElem? (i := 116) rfl)
theorem ow117 {Z : State} {a0 : Array Value} (hw : own_W Z a0) : (Cond.code own_y20 prog_69_method_6_code (5 : Nat) (Option.some Jvm.ClassFile.FieldType.boolean)).before a0 Z = true := hw _ (List.mem_of_getElem? (i := 117) rfl)
theorem ow118 {Z : State} {a0 : Array Value} (hw : own_W Z a0) : (Cond.methodLink "com/example/ibex/ibex/model/Constant" (115 : Nat) own_y9).before a0 Z = true := hw _ (List.mem_of_getElem? (i := 118) rfl)
theorem ow119 {Z : State} {a0 : Array Value} (hw : own_W Z a0) : (Cond.declares own_y9).before a0 Z = true := hw _ (List.mem_of_getElem? (i := 119) rfl)
theorem ow120 {Z : State} {a0 : Array Value} (hw : own_W Z a0) : (Cond.instanceMethod own_y9).before a0 Z = true := hw _ (List.mem_of_getElem? (i := 120) rfl)
theorem ow121 {Z : State} {a0 : Array Value} (hw : own_W Z a0) : (Cond.selects "java/lang/String" own_y9 own_y9).before a0 Z = true := hw _ (List.mem_of_getElem? (i := 121) rfl)
theorem ow122 {Z : State} {a0 : Array Value} (hw : own_W Z a0) : (Cond.code own_y9 jdk_42_method_56_code (2 : Nat) (Option.some Jvm.ClassFile.FieldType.char)).before a0 Z = true := hw _ (List.mem_of_getElem? (i := 122) rfl)
theorem ow123 {Z : State} {a0 : Array Value} (hw : own_W Z a0) : (Cond.methodLink "java/lang/String" (495 : Nat) own_y8).before a0 Z = true := hw _ (List.mem_of_getElem? (i := 123) rfl)
theorem ow124 {Z : State} {a0 : Array Value} (hw : own_W Z a0) : (Cond.static own_y8).before a0 Z = true := hw _ (List.mem_of_getElem? (i := 124) rfl)
theorem ow125 {Z : State} {a0 : Array Value} (hw : own_W Z a0) : (Cond.code own_y8 jdk_43_method_2_code (2 : Nat) (Option.some Jvm.ClassFile.FieldType.char)).before a0 Z = true := hw _ (List.mem_of_getElem? (i := 125) rfl)
theorem ow126 {Z : State} {a0 : Array Value} (hw : own_W Z a0) : (Cond.methodLink "java/lang/StringLatin1" (9 : Nat) own_y7).before a0 Z = true := hw _ (List.mem_of_getElem? (i := 126) rfl)
theorem ow127 {Z : State} {a0 : Array Value} (hw : own_W Z a0) : (Cond.static own_y7).before a0 Z = true := hw _ (List.mem_of_getElem? (i := 127) rfl)
theorem ow128 {Z : State} {a0 : Array Value} (hw : own_W Z a0) : (Cond.code own_y7 jdk_42_method_155_code (2 : Nat) (Option.none : Option Jvm.ClassFile.FieldType)).before a0 Z = true := hw _ (List.mem_of_getElem? (i := 128) rfl)
theorem ow129 {Z : State} {a0 : Array Value} (hw : own_W Z a0) : (Cond.fieldLink "java/lang/String" (1053 : Nat) "jdk/internal/util/Preconditions" "SIOOBE_FORMATTER" "Ljava/util/function/BiFunction;").before a0 Z = true := hw _ (List.mem_of_getElem? (i := 129) rfl)
theorem ow130 {Z : State} {a0 : Array Value} (hw : own_W Z a0) : (Cond.initialized "jdk/internal/util/Preconditions").before a0 Z = true := hw _ (List.mem_of_getElem? (i := 130) rfl)
theorem ow131 {Z : State} {a0 : Array Value} (hw : own_W Z a0) : (Cond.methodLink "java/lang/String" (1059 : Nat) own_y6).before a0 Z = true := hw _ (List.mem_of_getElem? (i := 131) rfl)
theorem ow132 {Z : State} {a0 : Array Value} (hw : own_W Z a0) : (Cond.static own_y6).before a0 Z = true := hw _ (List.mem_of_getElem? (i := 132) rfl)
theorem ow133 {Z : State} {a0 : Array Value} (hw : own_W Z a0) : (Cond.code own_y6 jdk_41_method_11_code (3 : Nat) (Option.some Jvm.ClassFile.FieldType.int)).before a0 Z = true := hw _ (List.mem_of_getElem? (i := 133) rfl)
theorem ow134 {Z : State} {a0 : Array Value} (hw : own_W Z a0) : (Cond.methodLink "com/example/ibex/ibex/model/Constant" (119 : Nat) own_y28).before a0 Z = true := hw _ (List.mem_of_getElem? (i := 134) rfl)
theorem ow135 {Z : State} {a0 : Array Value} (hw : own_W Z a0) : (Cond.declares own_y28).before a0 Z = true := hw _ (List.mem_of_getElem? (i := 135) rfl)
theorem ow136 {Z : State} {a0 : Array Value} (hw : own_W Z a0) : (Cond.instanceMethod own_y28).before a0 Z = true := hw _ (List.mem_of_getElem? (i := 136) rfl)
theorem ow137 {Z : State} {a0 : Array Value} (hw : own_W Z a0) : (Cond.selects "java/lang/String" own_y28 own_y28).before a0 Z = true := hw _ (List.mem_of_getElem? (i := 137) rfl)
theorem ow138 {Z : State} {a0 : Array Value} (hw : own_W Z a0) : (Cond.code own_y28 jdk_42_method_92_code (5 : Nat) (Option.some (Jvm.ClassFile.FieldType.object "java/lang/String"))).before a0 Z = true := hw _ (List.mem_of_getElem? (i := 138) rfl)
theorem ow139 {Z : State} {a0 : Array Value} (hw : own_W Z a0) : (Cond.methodLink "java/lang/String" (521 : Nat) own_y22).before a0 Z = true := hw _ (List.mem_of_getElem? (i := 139) rfl)
theorem ow140 {Z : State} {a0 : Array Value} (hw : own_W Z a0) : (Cond.static own_y22).before a0 Z = true := hw _ (List.mem_of_getElem? (i := 140) rfl)
theorem ow141 {Z : State} {a0 : Array Value} (hw : own_W Z a0) : (Cond.code own_y22 jdk_42_method_158_code (3 : Nat) (Option.none : Option Jvm.ClassFile.FieldType)).before a0 Z = true := hw _ (List.mem_of_getElem? (i := 141) rfl)
theorem ow142 {Z : State} {a0 : Array Value} (hw : own_W Z a0) : (Cond.methodLink "java/lang/String" (1062 : Nat) own_y21).before a0 Z = true := hw _ (List.mem_of_getElem? (i := 142) rfl)
theorem ow143 {Z : State} {a0 : Array Value} (hw : own_W Z a0) : (Cond.static own_y21).before a0 Z = true := hw _ (List.mem_of_getElem? (i := 143) rfl)
theorem ow144 {Z : State} {a0 : Array Value} (hw : own_W Z a0) : (Cond.code own_y21 jdk_41_method_12_code (4 : Nat) (Option.some Jvm.ClassFile.FieldType.int)).before a0 Z = true := hw _ (List.mem_of_getElem? (i := 144) rfl)
theorem ow145 {Z : State} {a0 : Array Value} (hw : own_W Z a0) : (Cond.fieldLink "com/example/ibex/ibex/model/Constant" (21 : Nat) "com/example/ibex/ibex/model/Constant" "string" "Z").before a0 Z = true := hw _ (List.mem_of_getElem? (i := 145) rfl)
theorem ow146 {Z : State} {a0 : Array Value} (hw : own_W Z a0) : (Cond.laysFinal "com/example/ibex/ibex/model/Constant" "com/example/ibex/ibex/model/Constant" "string" "Z").before a0 Z = true := hw _ (List.mem_of_getElem? (i := 146) rfl)
theorem ow147 {Z : State} {a0 : Array Value} (hw : own_W Z a0) : (Cond.fieldLink "com/example/ibex/ibex/model/Constant" (25 : Nat) "com/example/ibex/ibex/model/Constant" "text" "Ljava/lang/String;").before a0 Z = true := hw _ (List.mem_of_getElem? (i := 147) rfl)
theorem ow148 {Z : State} {a0 : Array Value} (hw : own_W Z a0) : (Cond.laysFinal "com/example/ibex/ibex/model/Constant" "com/example/ibex/ibex/model/Constant" "text" "Ljava/lang/String;").before a0 Z = true := hw _ (List.mem_of_getElem? (i := 148) rfl)
theorem ow149 {Z : State} {a0 : Array Value} (hw : own_W Z a0) : (Cond.classLink "com/example/ibex/ibex/model/ApproximateNumbersHoldsPinLaw" (24 : Nat) "com/example/ibex/ibex/model/ColumnType$ApproximateNumbers").before a0 Z = true := hw _ (List.mem_of_getElem? (i := 149) rfl)
theorem ow150 {Z : State} {a0 : Array Value} (hw : own_W Z a0) : (Cond.instantiable "com/example/ibex/ibex/model/ColumnType$ApproximateNumbers" (0 : Nat)).before a0 Z = true := hw _ (List.mem_of_getElem? (i := 150) rfl)
theorem ow151 {Z : State} {a0 : Array Value} (hw : own_W Z a0) : (Cond.initialized "com/example/ibex/ibex/model/ColumnType$ApproximateNumbers").before a0 Z = true := hw _ (List.mem_of_getElem? (i := 151) rfl)
theorem ow152 {Z : State} {a0 : Array Value} (hw : own_W Z a0) : (Cond.methodLink "com/example/ibex/ibex/model/ApproximateNumbersHoldsPinLaw" (26 : Nat) own_y50).before a0 Z = true := hw _ (List.mem_of_getElem? (i := 152) rfl)
theorem ow153 {Z : State} {a0 : Array Value} (hw : own_W Z a0) : (Cond.instanceMethod own_y50).before a0 Z = true := hw _ (List.mem_of_getElem? (i := 153) rfl)
theorem ow154 {Z : State} {a0 : Array Value} (hw : own_W Z a0) : (Cond.code own_y50 prog_66_method_1_code (1 : Nat) (Option.none : Option Jvm.ClassFile.FieldType)).before a0 Z = true := hw _ (List.mem_of_getElem? (i := 154) rfl)
theorem ow155 {Z : State} {a0 : Array Value} (hw : own_W Z a0) : (Cond.methodLink "com/example/ibex/ibex/model/ColumnType$ApproximateNumbers" (1 : Nat) own_y47).before a0 Z = true := hw _ (List.mem_of_getElem? (i := 155) rfl)
theorem ow156 {Z : State} {a0 : Array Value} (hw : own_W Z a0) : (Cond.methodLink "com/example/ibex/ibex/model/ApproximateNumbersHoldsPinLaw" (27 : Nat) own_y52).before a0 Z = true := hw _ (List.mem_of_getElem? (i := 156) rfl)
theorem ow157 {Z : State} {a0 : Array Value} (hw : own_W Z a0) : (Cond.declares own_y52).before a0 Z = true := hw _ (List.mem_of_getElem? (i := 157) rfl)
theorem ow158 {Z : State} {a0 : Array Value} (hw : own_W Z a0) : (Cond.instanceMethod own_y52).before a0 Z = true := hw _ (List.mem_of_getElem? (i := 158) rfl)
theorem ow159 {Z : State} {a0 : Array Value} (hw : own_W Z a0) : (Cond.selects "com/example/ibex/ibex/model/ColumnType$ApproximateNumbers" own_y52 own_y52).before a0 Z = true := hw _ (List.mem_of_getElem? (i := 159) rfl)
theorem ow160 {Z : State} {a0 : Array Value} (hw : own_W Z a0) : (Cond.code own_y52 prog_66_method_2_code (2 : Nat) (Option.some Jvm.ClassFile.FieldType.boolean)).before a0 Z = true := hw _ (List.mem_of_getElem? (i := 160) rfl)
theorem ow161 {Z : State} {a0 : Array Value} (hw : own_W Z a0) : (Cond.methodLink "com/example/ibex/ibex/model/ColumnType$ApproximateNumbers" (7 : Nat) own_y51).before a0 Z = true := hw _ (List.mem_of_getElem? (i := 161) rfl)
theorem ow162 {Z : State} {a0 : Array Value} (hw : own_W Z a0) : (Cond.declares own_y51).before a0 Z = true := hw _ (List.mem_of_getElem? (i := 162) rfl)
theorem ow163 {Z : State} {a0 : Array Value} (hw : own_W Z a0) : (Cond.instanceMethod own_y51).before a0 Z = true := hw _ (List.mem_of_getElem? (i := 163) rfl)
theorem ow164 {Z : State} {a0 : Array Value} (hw : own_W Z a0) : (Cond.selects "com/example/ibex/ibex/model/Constant" own_y51 own_y51).before a0 Z = true := hw _ (List.mem_of_getElem? (i := 164) rfl)
theorem ow165 {Z : State} {a0 : Array Value} (hw : own_W Z a0) : (Cond.code own_y51 prog_69_method_10_code (1 : Nat) (Option.some Jvm.ClassFile.FieldType.boolean)).before a0 Z = true := hw _ (List.mem_of_getElem? (i := 165) rfl)
theorem ow166 {Z : State} {a0 : Array Value} (hw : own_W Z a0) : (Cond.methodLink "java/lang/String" (685 : Nat) own_y27).before a0 Z = true := hw _ (List.mem_of_getElem? (i := 166) rfl)
theorem ow167 {Z : State} {a0 : Array Value} (hw : own_W Z a0) : (Cond.static own_y27).before a0 Z = true := hw _ (List.mem_of_getElem? (i := 167) rfl)
theorem ow168 {Z : State} {a0 : Array Value} (hw : own_W Z a0) : (Cond.code own_y27 jdk_43_method_47_code (3 : Nat) (Option.some (Jvm.ClassFile.FieldType.object "java/lang/String"))).before a0 Z = true := hw _ (List.mem_of_getElem? (i := 168) rfl)
theorem ow169 {Z : State} {a0 : Array Value} (hw : own_W Z a0) : (Cond.classLink "java/lang/StringLatin1" (1 : Nat) "java/lang/String").before a0 Z = true := hw _ (List.mem_of_getElem? (i := 169) rfl)
theorem ow170 {Z : State} {a0 : Array Value} (hw : own_W Z a0) : (Cond.methodLink "java/lang/StringLatin1" (232 : Nat) own_y25).before a0 Z = true := hw _ (List.mem_of_getElem? (i := 170) rfl)
theorem ow171 {Z : State} {a0 : Array Value} (hw : own_W Z a0) : (Cond.static own_y25).before a0 Z = true := hw _ (List.mem_of_getElem? (i := 171) rfl)
theorem ow172 {Z : State} {a0 : Array Value} (hw : own_W Z a0) : (Cond.initialized "java/util/Arrays").before a0 Z = true := hw _ (List.mem_of_getElem? (i := 172) rfl)
theorem ow173 {Z : State} {a0 : Array Value} (hw : own_W Z a0) : (Cond.code own_y25 jdk_65_method_132_code (3 : Nat) (Option.some (Jvm.ClassFile.FieldType.array Jvm.ClassFile.FieldType.byte))).before a0 Z = true := hw _ (List.mem_of_getElem? (i := 173) rfl)
theorem ow174 {Z : State} {a0 : Array Value} (hw : own_W Z a0) : (Cond.methodLink "java/util/Arrays" (339 : Nat) own_y24).before a0 Z = true := hw _ (List.mem_of_getElem? (i := 174) rfl)
theorem ow175 {Z : State} {a0 : Array Value} (hw : own_W Z a0) : (Cond.static own_y24).before a0 Z = true := hw _ (List.mem_of_getElem? (i := 175) rfl)
theorem ow176 {Z : State} {a0 : Array Value} (hw : own_W Z a0) : (Cond.code own_y24 jdk_65_method_133_code (5 : Nat) (Option.some (Jvm.ClassFile.FieldType.array Jvm.ClassFile.FieldType.byte))).before a0 Z = true := hw _ (List.mem_of_getElem? (i := 176) rfl)
theorem ow177 {Z : State} {a0 : Array Value} (hw : own_W Z a0) : (Cond.methodLink "java/util/Arrays" (343 : Nat) own_y23).before a0 Z = true := hw _ (List.mem_of_getElem? (i := 177) rfl)
theorem ow178 {Z : State} {a0 : Array Value} (hw : own_W Z a0) : (Cond.static own_y23).before a0 Z = true := hw _ (List.mem_of_getElem? (i := 178) rfl)
theorem ow179 {Z : State} {a0 : Array Value} (hw : own_W Z a0) : (Cond.code own_y23 jdk_65_method_131_code (2 : Nat) (Option.none : Option Jvm.ClassFile.FieldType)).before a0 Z = true := hw _ (List.mem_of_getElem? (i := 179) rfl)
theorem ow180 {Z : State} {a0 : Array Value} (hw : own_W Z a0) : (Cond.methodLink "java/util/Arrays" (304 : Nat) own_y15).before a0 Z = true := hw _ (List.mem_of_getElem? (i := 180) rfl)
theorem ow181 {Z : State} {a0 : Array Value} (hw : own_W Z a0) : (Cond.methodLink "java/util/Arrays" (150 : Nat) own_y54).before a0 Z = true := hw _ (List.mem_of_getElem? (i := 181) rfl)
theorem ow182 {Z : State} {a0 : Array Value} (hw : own_W Z a0) : (Cond.static own_y54).before a0 Z = true := hw _ (List.mem_of_getElem? (i := 182) rfl)
theorem ow183 {Z : State} {a0 : Array Value} (hw : own_W Z a0) : (Cond.initialized "java/lang/System").before a0 Z = true := hw _ (List.mem_of_getElem? (i := 183) rfl)
theorem ow184 {Z : State} {a0 : Array Value} (hw : own_W Z a0) : (Cond.native own_y54).before a0 Z = true := hw _ (List.mem_of_getElem? (i := 184) rfl)
theorem ow185 {Z : State} {a0 : Array Value} (hw : own_W Z a0) : (Cond.methodLink "java/lang/StringLatin1" (112 : Nat) own_y26).before a0 Z = true := hw _ (List.mem_of_getElem? (i := 185) rfl)
theorem ow186 {Z : State} {a0 : Array Value} (hw : own_W Z a0) : (Cond.instanceMethod own_y26).before a0 Z = true := hw _ (List.mem_of_getElem? (i := 186) rfl)
theorem ow187 {Z : State} {a0 : Array Value} (hw : own_W Z a0) : (Cond.code own_y26 jdk_42_method_151_code (3 : Nat) (Option.none : Option Jvm.ClassFile.FieldType)).before a0 Z = true := hw _ (List.mem_of_getElem? (i := 187) rfl)
theorem ow188 {Z : State} {a0 : Array Value} (hw : own_W Z a0) : (Cond.stringLink "com/example/ibex/ibex/model/Constant" (34 : Nat) "0").before a0 Z = true := hw _ (List.mem_of_getElem? (i := 188) rfl)
theorem ow189 {Z : State} {a0 : Array Value} (hw : own_W Z a0) : (Cond.methodLink "com/example/ibex/ibex/model/Constant" (123 : Nat) own_y30).before a0 Z = true := hw _ (List.mem_of_getElem? (i := 189) rfl)
theorem ow190 {Z : State} {a0 : Array Value} (hw : own_W Z a0) : (Cond.declares own_y30).before a0 Z = true := hw _ (List.mem_of_getElem? (i := 190) rfl)
theorem ow191 {Z : State} {a0 : Array Value} (hw : own_W Z a0) : (Cond.instanceMethod own_y30).before a0 Z = true := hw _ (List.mem_of_getElem? (i := 191) rfl)
theorem ow192 {Z : State} {a0 : Array Value} (hw : own_W Z a0) : (Cond.selects "java/lang/String" own_y30 own_y30).before a0 Z = true := hw _ (List.mem_of_getElem? (i := 192) rfl)
theorem ow193 {Z : State} {a0 : Array Value} (hw : own_W Z a0) : (Cond.code own_y30 jdk_42_method_66_code (3 : Nat) (Option.some Jvm.ClassFile.FieldType.boolean)).before a0 Z = true := hw _ (List.mem_of_getElem? (i := 193) rfl)
theorem ow194 {Z : State} {a0 : Array Value} (hw : own_W Z a0) : (Cond.classLink "java/lang/String" (10 : Nat) "java/lang/String").before a0 Z = true := hw _ (List.mem_of_getElem? (i := 194) rfl)
theorem ow195 {Z : State} {a0 : Array Value} (hw : own_W Z a0) : (Cond.methodLink "java/lang/String" (541 : Nat) own_y29).before a0 Z = true := hw _ (List.mem_of_getElem? (i := 195) rfl)
theorem ow196 {Z : State} {a0 : Array Value} (hw : own_W Z a0) : (Cond.static own_y29).before a0 Z = true := hw _ (List.mem_of_getElem? (i := 196) rfl)
theorem ow197 {Z : State} {a0 : Array Value} (hw : own_W Z a0) : (Cond.code own_y29 jdk_43_method_13_code (3 : Nat) (Option.some Jvm.ClassFile.FieldType.boolean)).before a0 Z = true := hw _ (List.mem_of_getElem? (i := 197) rfl)
theorem ow198 {Z : State} {a0 : Array Value} (hw : own_W Z a0) : (Cond.classLink "com/example/ibex/ibex/model/Constant" (127 : Nat) "java/lang/StringBuilder").before a0 Z = true := hw _ (List.mem_of_getElem? (i := 198) rfl)
theorem ow199 {Z : State} {a0 : Array Value} (hw : own_W Z a0) : (Cond.instantiable "java/lang/StringBuilder" (4 : Nat)).before a0 Z = true := hw _ (List.mem_of_getElem? (i := 199) rfl)
theorem ow200 {Z : State} {a0 : Array Value} (hw : own_W Z a0) : (Cond.initialized "java/lang/StringBuilder").before a0 Z = true := hw _ (List.mem_of_getElem? (i := 200) rfl)
theorem ow201 {Z : State} {a0 : Array Value} (hw : own_W Z a0) : (Cond.methodLink "com/example/ibex/ibex/model/Constant" (129 : Nat) own_y32).before a0 Z = true := hw _ (List.mem_of_getElem? (i := 201) rfl)
theorem ow202 {Z : State} {a0 : Array Value} (hw : own_W Z a0) : (Cond.instanceMethod own_y32).before a0 Z = true := hw _ (List.mem_of_getElem? (i := 202) rfl)
theorem ow203 {Z : State} {a0 : Array Value} (hw : own_W Z a0) : (Cond.code own_y32 jdk_67_method_1_code (1 : Nat) (Option.none : Option Jvm.ClassFile.FieldType)).before a0 Z = true := hw _ (List.mem_of_getElem? (i := 203) rfl)
theorem ow204 {Z : State} {a0 : Array Value} (hw : own_W Z a0) : (Cond.methodLink "java/lang/StringBuilder" (1 : Nat) own_y31).before a0 Z = true := hw _ (List.mem_of_getElem? (i := 204) rfl)
theorem ow205 {Z : State} {a0 : Array Value} (hw : own_W Z a0) : (Cond.instanceMethod own_y31).before a0 Z = true := hw _ (List.mem_of_getElem? (i := 205) rfl)
theorem ow208 {Z : State} {a0 : Array Value} (hw : own_W Z a0) : (Cond.initialized "java/lang/AbstractStringBuilder").before a0 Z = true := hw _ (List.mem_of_getElem? (i := 208) rfl)
theorem ow209 {Z : State} {a0 : Array Value} (hw : own_W Z a0) : (Cond.code own_y31 jdk_68_method_2_code (2 : Nat) (Option.none : Option Jvm.ClassFile.FieldType)).before a0 Z = true := hw _ (List.mem_of_getElem? (i := 209) rfl)
theorem ow210 {Z : State} {a0 : Array Value} (hw : own_W Z a0) : (Cond.methodLink "java/lang/AbstractStringBuilder" (3 : Nat) own_y53).before a0 Z = true := hw _ (List.mem_of_getElem? (i := 210) rfl)
theorem ow211 {Z : State} {a0 : Array Value} (hw : own_W Z a0) : (Cond.fieldLink "java/lang/AbstractStringBuilder" (18 : Nat) "java/lang/String" "COMPACT_STRINGS" "Z").before a0 Z = true := hw _ (List.mem_of_getElem? (i := 211) rfl)
theorem ow212 {Z : State} {a0 : Array Value} (hw : own_W Z a0) : (Cond.fieldLink "java/lang/AbstractStringBuilder" (15 : Nat) "java/lang/AbstractStringBuilder" "value" "[B").before a0 Z = true := hw _ (List.mem_of_getElem? (i := 212) rfl)
theorem ow213 {Z : State} {a0 : Array Value} (hw : own_W Z a0) : (Cond.lays "java/lang/StringBuilder" "java/lang/AbstractStringBuilder" "value" "[B").before a0 Z = true := hw _ (List.mem_of_getElem? (i := 213) rfl)
theorem ow214 {Z : State} {a0 : Array Value} (hw : own_W Z a0) : (Cond.fieldLink "java/lang/AbstractStringBuilder" (22 : Nat) "java/lang/AbstractStringBuilder" "coder" "B").before a0 Z = true := hw _ (List.mem_of_getElem? (i := 214) rfl)
theorem ow215 {Z : State} {a0 : Array Value} (hw : own_W Z a0) : (Cond.lays "java/lang/StringBuilder" "java/lang/AbstractStringBuilder" "coder" "B").before a0 Z = true := hw _ (List.mem_of_getElem? (i := 215) rfl)
theorem ow216 {Z : State} {a0 : Array Value} (hw : own_W Z a0) : (Cond.methodLink "com/example/ibex/ibex/model/Constant" (130 : Nat) own_y38).before a0 Z = true := hw _ (List.mem_of_getElem? (i := 216) rfl)
theorem ow217 {Z : State} {a0 : Array Value} (hw : own_W Z a0) : (Cond.declares own_y38).before a0 Z = true := hw _ (List.mem_of_getElem? (i := 217) rfl)
theorem ow218 {Z : State} {a0 : Array Value} (hw : own_W Z a0) : (Cond.instanceMethod own_y38).before a0 Z = true := hw _ (List.mem_of_getElem? (i := 218) rfl)
theorem ow219 {Z : State} {a0 : Array Value} (hw : own_W Z a0) : (Cond.selects "java/lang/StringBuilder" own_y38 own_y38).before a0 Z = true := hw _ (List.mem_of_getElem? (i := 219) rfl)
theorem ow220 {Z : State} {a0 : Array Value} (hw : own_W Z a0) : (Cond.code own_y38 jdk_67_method_7_code (2 : Nat) (Option.some (Jvm.ClassFile.FieldType.object "java/lang/StringBuilder"))).before a0 Z = true := hw _ (List.mem_of_getElem? (i := 220) rfl)
theorem ow221 {Z : State} {a0 : Array Value} (hw : own_W Z a0) : (Cond.methodLink "java/lang/StringBuilder" (29 : Nat) own_y37).before a0 Z = true := hw _ (List.mem_of_getElem? (i := 221) rfl)
theorem ow222 {Z : State} {a0 : Array Value} (hw : own_W Z a0) : (Cond.instanceMethod own_y37).before a0 Z = true := hw _ (List.mem_of_getElem? (i := 222) rfl)
theorem ow223 {Z : State} {a0 : Array Value} (hw : own_W Z a0) : (Cond.superclass "java/lang/StringBuilder" "java/lang/AbstractStringBuilder").before a0 Z = true := hw _ (List.mem_of_getElem? (i := 223) rfl)
theorem ow225 {Z : State} {a0 : Array Value} (hw : own_W Z a0) : (Cond.code own_y37 jdk_68_method_22_code (3 : Nat) (Option.some (Jvm.ClassFile.FieldType.object "java/lang/AbstractStringBuilder"))).before a0 Z = true := hw _ (List.mem_of_getElem? (i := 225) rfl)
theorem ow226 {Z : State} {a0 : Array Value} (hw : own_W Z a0) : (Cond.methodLink "java/lang/AbstractStringBuilder" (32 : Nat) own_y4).before a0 Z = true := hw _ (List.mem_of_getElem? (i := 226) rfl)
theorem ow227 {Z : State} {a0 : Array Value} (hw : own_W Z a0) : (Cond.fieldLink "java/lang/AbstractStringBuilder" (79 : Nat) "java/lang/AbstractStringBuilder" "count" "I").before a0 Z = true := hw _ (List.mem_of_getElem? (i := 227) rfl)
theorem ow228 {Z : State} {a0 : Array Value} (hw : own_W Z a0) : (Cond.lays "java/lang/StringBuilder" "java/lang/AbstractStringBuilder" "count" "I").before a0 Z = true := hw _ (List.mem_of_getElem? (i := 228) rfl)
theorem ow229 {Z : State} {a0 : Array Value} (hw : own_W Z a0) : (Cond.methodLink "java/lang/AbstractStringBuilder" (100 : Nat) own_y34).before a0 Z = true := hw _ (List.mem_of_getElem? (i := 229) rfl)
theorem ow230 {Z : State} {a0 : Array Value} (hw : own_W Z a0) : (Cond.instanceMethod own_y34).before a0 Z = true := hw _ (List.mem_of_getElem? (i := 230) rfl)
theorem ow231 {Z : State} {a0 : Array Value} (hw : own_W Z a0) : (Cond.privateMethod own_y34).before a0 Z = true := hw _ (List.mem_of_getElem? (i := 231) rfl)
theorem ow232 {Z : State} {a0 : Array Value} (hw : own_W Z a0) : (Cond.selects "java/lang/StringBuilder" own_y34 own_y34).before a0 Z = true := hw _ (List.mem_of_getElem? (i := 232) rfl)
theorem ow233 {Z : State} {a0 : Array Value} (hw : own_W Z a0) : (Cond.code own_y34 jdk_68_method_9_code (3 : Nat) (Option.none : Option Jvm.ClassFile.FieldType)).before a0 Z = true := hw _ (List.mem_of_getElem? (i := 233) rfl)
theorem ow234 {Z : State} {a0 : Array Value} (hw : own_W Z a0) : (Cond.methodLink "java/lang/AbstractStringBuilder" (208 : Nat) own_y36).before a0 Z = true := hw _ (List.mem_of_getElem? (i := 234) rfl)
theorem ow235 {Z : State} {a0 : Array Value} (hw : own_W Z a0) : (Cond.instanceMethod own_y36).before a0 Z = true := hw _ (List.mem_of_getElem? (i := 235) rfl)
theorem ow236 {Z : State} {a0 : Array Value} (hw : own_W Z a0) : (Cond.privateMethod own_y36).before a0 Z = true := hw _ (List.mem_of_getElem? (i := 236) rfl)
theorem ow237 {Z : State} {a0 : Array Value} (hw : own_W Z a0) : (Cond.selects "java/lang/StringBuilder" own_y36 own_y36).before a0 Z = true := hw _ (List.mem_of_getElem? (i := 237) rfl)
theorem ow238 {Z : State} {a0 : Array Value} (hw : own_W Z a0) : (Cond.code own_y36 jdk_68_method_73_code (3 : Nat) (Option.none : Option Jvm.ClassFile.FieldType)).before a0 Z = true := hw _ (List.mem_of_getElem? (i := 238) rfl)
theorem ow239 {Z : State} {a0 : Array Value} (hw : own_W Z a0) : (Cond.methodLink "java/lang/AbstractStringBuilder" (397 : Nat) own_y33).before a0 Z = true := hw _ (List.mem_of_getElem? (i := 239) rfl)
theorem ow240 {Z : State} {a0 : Array Value} (hw : own_W Z a0) : (Cond.instanceMethod own_y33).before a0 Z = true := hw _ (List.mem_of_getElem? (i := 240) rfl)
theorem ow241 {Z : State} {a0 : Array Value} (hw : own_W Z a0) : (Cond.privateMethod own_y33).before a0 Z = true := hw _ (List.mem_of_getElem? (i := 241) rfl)
theorem ow242 {Z : State} {a0 : Array Value} (hw : own_W Z a0) : (Cond.selects "java/lang/StringBuilder" own_y33 own_y33).before a0 Z = true := hw _ (List.mem_of_getElem? (i := 242) rfl)
theorem ow243 {Z : State} {a0 : Array Value} (hw : own_W Z a0) : (Cond.code own_y33 jdk_68_method_71_code (2 : Nat) (Option.none : Option Jvm.ClassFile.FieldType)).before a0 Z = true := hw _ (List.mem_of_getElem? (i := 243) rfl)
theorem ow244 {Z : State} {a0 : Array Value} (hw : own_W Z a0) : (Cond.methodLink "java/lang/AbstractStringBuilder" (40 : Nat) own_y3).before a0 Z = true := hw _ (List.mem_of_getElem? (i := 244) rfl)
theorem ow245 {Z : State} {a0 : Array Value} (hw : own_W Z a0) : (Cond.methodLink "java/lang/AbstractStringBuilder" (399 : Nat) own_y35).before a0 Z = true := hw _ (List.mem_of_getElem? (i := 245) rfl)
theorem ow246 {Z : State} {a0 : Array Value} (hw : own_W Z a0) : (Cond.declares own_y35).before a0 Z = true := hw _ (List.mem_of_getElem? (i := 246) rfl)
theorem ow247 {Z : State} {a0 : Array Value} (hw : own_W Z a0) : (Cond.instanceMethod own_y35).before a0 Z = true := hw _ (List.mem_of_getElem? (i := 247) rfl)
theorem ow248 {Z : State} {a0 : Array Value} (hw : own_W Z a0) : (Cond.selects "java/lang/String" own_y35 own_y35).before a0 Z = true := hw _ (List.mem_of_getElem? (i := 248) rfl)
theorem ow249 {Z : State} {a0 : Array Value} (hw : own_W Z a0) : (Cond.code own_y35 jdk_42_method_147_code (4 : Nat) (Option.none : Option Jvm.ClassFile.FieldType)).before a0 Z = true := hw _ (List.mem_of_getElem? (i := 249) rfl)
theorem ow250 {Z : State} {a0 : Array Value} (hw : own_W Z a0) : (Cond.methodLink "java/lang/String" (212 : Nat) own_y54).before a0 Z = true := hw _ (List.mem_of_getElem? (i := 250) rfl)
theorem ow251 {Z : State} {a0 : Array Value} (hw : own_W Z a0) : (Cond.methodLink "com/example/ibex/ibex/model/Constant" (134 : Nat) own_y45).before a0 Z = true := hw _ (List.mem_of_getElem? (i := 251) rfl)
theorem ow252 {Z : State} {a0 : Array Value} (hw : own_W Z a0) : (Cond.declares own_y45).before a0 Z = true := hw _ (List.mem_of_getElem? (i := 252) rfl)
theorem ow253 {Z : State} {a0 : Array Value} (hw : own_W Z a0) : (Cond.instanceMethod own_y45).before a0 Z = true := hw _ (List.mem_of_getElem? (i := 253) rfl)
theorem ow254 {Z : State} {a0 : Array Value} (hw : own_W Z a0) : (Cond.selects "java/lang/StringBuilder" own_y45 own_y45).before a0 Z = true := hw _ (List.mem_of_getElem? (i := 254) rfl)
theorem ow255 {Z : State} {a0 : Array Value} (hw : own_W Z a0) : (Cond.code own_y45 jdk_67_method_42_code (1 : Nat) (Option.some (Jvm.ClassFile.FieldType.object "java/lang/String"))).before a0 Z = true := hw _ (List.mem_of_getElem? (i := 255) rfl)
theorem ow256 {Z : State} {a0 : Array Value} (hw : own_W Z a0) : (Cond.classLink "java/lang/StringBuilder" (18 : Nat) "java/lang/String").before a0 Z = true := hw _ (List.mem_of_getElem? (i := 256) rfl)
theorem ow257 {Z : State} {a0 : Array Value} (hw : own_W Z a0) : (Cond.methodLink "java/lang/StringBuilder" (137 : Nat) own_y44).before a0 Z = true := hw _ (List.mem_of_getElem? (i := 257) rfl)
theorem ow258 {Z : State} {a0 : Array Value} (hw : own_W Z a0) : (Cond.instanceMethod own_y44).before a0 Z = true := hw _ (List.mem_of_getElem? (i := 258) rfl)
theorem ow259 {Z : State} {a0 : Array Value} (hw : own_W Z a0) : (Cond.code own_y44 jdk_42_method_53_code (2 : Nat) (Option.none : Option Jvm.ClassFile.FieldType)).before a0 Z = true := hw _ (List.mem_of_getElem? (i := 259) rfl)
theorem ow260 {Z : State} {a0 : Array Value} (hw : own_W Z a0) : (Cond.methodLink "java/lang/String" (489 : Nat) own_y43).before a0 Z = true := hw _ (List.mem_of_getElem? (i := 260) rfl)
theorem ow261 {Z : State} {a0 : Array Value} (hw : own_W Z a0) : (Cond.instanceMethod own_y43).before a0 Z = true := hw _ (List.mem_of_getElem? (i := 261) rfl)
theorem ow262 {Z : State} {a0 : Array Value} (hw : own_W Z a0) : (Cond.code own_y43 jdk_42_method_150_code (5 : Nat) (Option.none : Option Jvm.ClassFile.FieldType)).before a0 Z = true := hw _ (List.mem_of_getElem? (i := 262) rfl)
theorem ow263 {Z : State} {a0 : Array Value} (hw : own_W Z a0) : (Cond.methodLink "java/lang/String" (552 : Nat) own_y39).before a0 Z = true := hw _ (List.mem_of_getElem? (i := 263) rfl)
theorem ow264 {Z : State} {a0 : Array Value} (hw : own_W Z a0) : (Cond.declares own_y39).before a0 Z = true := hw _ (List.mem_of_getElem? (i := 264) rfl)
theorem ow265 {Z : State} {a0 : Array Value} (hw : own_W Z a0) : (Cond.instanceMethod own_y39).before a0 Z = true := hw _ (List.mem_of_getElem? (i := 265) rfl)
theorem ow266 {Z : State} {a0 : Array Value} (hw : own_W Z a0) : (Cond.selects "java/lang/StringBuilder" own_y39 own_y39).before a0 Z = true := hw _ (List.mem_of_getElem? (i := 266) rfl)
theorem ow267 {Z : State} {a0 : Array Value} (hw : own_W Z a0) : (Cond.code own_y39 jdk_68_method_64_code (1 : Nat) (Option.some (Jvm.ClassFile.FieldType.array Jvm.ClassFile.FieldType.byte))).before a0 Z = true := hw _ (List.mem_of_getElem? (i := 267) rfl)
theorem ow268 {Z : State} {a0 : Array Value} (hw : own_W Z a0) : (Cond.methodLink "java/lang/String" (549 : Nat) own_y40).before a0 Z = true := hw _ (List.mem_of_getElem? (i := 268) rfl)
theorem ow269 {Z : State} {a0 : Array Value} (hw : own_W Z a0) : (Cond.declares own_y40).before a0 Z = true := hw _ (List.mem_of_getElem? (i := 269) rfl)
theorem ow270 {Z : State} {a0 : Array Value} (hw : own_W Z a0) : (Cond.instanceMethod own_y40).before a0 Z = true := hw _ (List.mem_of_getElem? (i := 270) rfl)
theorem ow271 {Z : State} {a0 : Array Value} (hw : own_W Z a0) : (Cond.selects "java/lang/StringBuilder" own_y40 own_y41).before a0 Z = true := hw _ (List.mem_of_getElem? (i := 271) rfl)
theorem ow272 {Z : State} {a0 : Array Value} (hw : own_W Z a0) : (Cond.instanceMethod own_y41).before a0 Z = true := hw _ (List.mem_of_getElem? (i := 272) rfl)
theorem ow273 {Z : State} {a0 : Array Value} (hw : own_W Z a0) : (Cond.code own_y41 jdk_67_method_93_code (1 : Nat) (Option.some Jvm.ClassFile.FieldType.int)).before a0 Z = true := hw _ (List.mem_of_getElem? (i := 273) rfl)
theorem ow274 {Z : State} {a0 : Array Value} (hw : own_W Z a0) : (Cond.methodLink "java/lang/StringBuilder" (343 : Nat) own_y40).before a0 Z = true := hw _ (List.mem_of_getElem? (i := 274) rfl)
theorem ow275 {Z : State} {a0 : Array Value} (hw : own_W Z a0) : (Cond.code own_y40 jdk_68_method_6_code (1 : Nat) (Option.some Jvm.ClassFile.FieldType.int)).before a0 Z = true := hw _ (List.mem_of_getElem? (i := 275) rfl)
theorem ow276 {Z : State} {a0 : Array Value} (hw : own_W Z a0) : (Cond.methodLink "java/lang/String" (1047 : Nat) own_y42).before a0 Z = true := hw _ (List.mem_of_getElem? (i := 276) rfl)
theorem ow277 {Z : State} {a0 : Array Value} (hw : own_W Z a0) : (Cond.declares own_y42).before a0 Z = true := hw _ (List.mem_of_getElem? (i := 277) rfl)
theorem ow278 {Z : State} {a0 : Array Value} (hw : own_W Z a0) : (Cond.instanceMethod own_y42).before a0 Z = true := hw _ (List.mem_of_getElem? (i := 278) rfl)
theorem ow279 {Z : State} {a0 : Array Value} (hw : own_W Z a0) : (Cond.selects "java/lang/StringBuilder" own_y42 own_y42).before a0 Z = true := hw _ (List.mem_of_getElem? (i := 279) rfl)
theorem ow280 {Z : State} {a0 : Array Value} (hw : own_W Z a0) : (Cond.code own_y42 jdk_68_method_68_code (1 : Nat) (Option.some Jvm.ClassFile.FieldType.boolean)).before a0 Z = true := hw _ (List.mem_of_getElem? (i := 280) rfl)
theorem ow281 {Z : State} {a0 : Array Value} (hw : own_W Z a0) : (Cond.methodLink "java/lang/String" (54 : Nat) own_y25).before a0 Z = true := hw _ (List.mem_of_getElem? (i := 281) rfl)
theorem ow282 {Z : State} {a0 : Array Value} (hw : own_W Z a0) : (Cond.stringLink "java/lang/String" (7 : Nat) "").before a0 Z = true := hw _ (List.mem_of_getElem? (i := 282) rfl)
theorem own_sn0 {Z : State} {a0 : Array Value} (hw : own_W Z a0) : Jvm.RoadKit.slotOf Z "java/lang/String" "coder" "B" ≠ Jvm.RoadKit.slotOf Z "java/lang/String" "value" "[B" := slot_ne (Or.inr (ow32 hw)) (Or.inr (ow34 hw)) (by decide +kernel) (t := .byte) (t' := (.array .byte)) own_fd1 own_fd0
theorem own_sn1 {Z : State} {a0 : Array Value} (hw : own_W Z a0) : Jvm.RoadKit.slotOf Z "java/lang/AbstractStringBuilder" "coder" "B" ≠ Jvm.RoadKit.slotOf Z "java/lang/AbstractStringBuilder" "value" "[B" := slot_ne (Or.inl (ow215 hw)) (Or.inl (ow213 hw)) (by decide +kernel) (t := .byte) (t' := (.array .byte)) own_fd1 own_fd0
theorem own_sn2 {Z : State} {a0 : Array Value} (hw : own_W Z a0) : Jvm.RoadKit.slotOf Z "java/lang/AbstractStringBuilder" "count" "I" ≠ Jvm.RoadKit.slotOf Z "java/lang/AbstractStringBuilder" "value" "[B" := slot_ne (Or.inl (ow228 hw)) (Or.inl (ow213 hw)) (by decide +kernel) (t := .int) (t' := (.array .byte)) own_fd2 own_fd0
theorem own_sn3 {Z : State} {a0 : Array Value} (hw : own_W Z a0) : Jvm.RoadKit.slotOf Z "java/lang/AbstractStringBuilder" "count" "I" ≠ Jvm.RoadKit.slotOf Z "java/lang/AbstractStringBuilder" "coder" "B" := slot_ne (Or.inl (ow228 hw)) (Or.inl (ow215 hw)) (by decide +kernel) (t := .int) (t' := .byte) own_fd2 own_fd1
theorem own_sn4 {Z : State} {a0 : Array Value} (hw : own_W Z a0) : Jvm.RoadKit.slotOf Z "com/example/ibex/ibex/model/Constant" "text" "Ljava/lang/String;" ≠ Jvm.RoadKit.slotOf Z "com/example/ibex/ibex/model/Constant" "string" "Z" := slot_ne (Or.inr (ow148 hw)) (Or.inr (ow146 hw)) (by decide +kernel) (t := (.object "java/lang/String")) (t' := .boolean) own_fd4 own_fd3
theorem own_Lhw {Z : State} {a0 : Array Value} (hw : own_W Z a0) : own_L Z a0 := by
  intro e he
  simp only [consts_1, List.mem_cons, List.not_mem_nil, or_false] at he
  rcases he with rfl | rfl | rfl | rfl
  · exact ⟨_, hw _ (List.mem_of_getElem? (i := 47) rfl)⟩
  · exact ⟨_, hw _ (List.mem_of_getElem? (i := 188) rfl)⟩
  · exact ⟨_, hw _ (List.mem_of_getElem? (i := 57) rfl)⟩
  · exact ⟨_, hw _ (List.mem_of_getElem? (i := 282) rfl)⟩
theorem own_Jstart {s : State} {a0 args : Array Value} {tb : Tables} {e : Env} (hw : ∀ d ∈ tables_1, d.before a0 s = true) (hcw : (Jvm.Cond.not (Jvm.Cond.eq (Jvm.Term.static "java/lang/String" "COMPACT_STRINGS" "Z") (Jvm.Term.int (0 : Int32)))).before a0 s = true) (hc : Calls_1 tb e args s) : own_J s s.vm s.heap := by
  intro e he
  have hh := hc.1 e he
  simp only [consts_1, List.mem_cons, List.not_mem_nil, or_false] at he
  rcases he with rfl | rfl | rfl | rfl
  · exact heldStart hh (hw _ (List.mem_of_getElem? (i := 47) rfl)) (by decide) hcw (hw _ (List.mem_of_getElem? (i := 24) rfl)) (hw _ (List.mem_of_getElem? (i := 6) rfl))
  · exact heldStart hh (hw _ (List.mem_of_getElem? (i := 188) rfl)) (by decide) hcw (hw _ (List.mem_of_getElem? (i := 24) rfl)) (hw _ (List.mem_of_getElem? (i := 6) rfl))
  · exact heldStart hh (hw _ (List.mem_of_getElem? (i := 57) rfl)) (by decide) hcw (hw _ (List.mem_of_getElem? (i := 24) rfl)) (hw _ (List.mem_of_getElem? (i := 6) rfl))
  · exact heldStart hh (hw _ (List.mem_of_getElem? (i := 282) rfl)) (by decide) hcw (hw _ (List.mem_of_getElem? (i := 24) rfl)) (hw _ (List.mem_of_getElem? (i := 6) rfl))
theorem own_pd_0 : parseMethodDescriptor "([CIILjava/lang/Void;)V" = some ⟨[(.array .char), .int, .int, (.object "java/lang/Void")], none⟩ := by decide +kernel
theorem own_pd_1 : parseMethodDescriptor "()B" = some ⟨[], some .byte⟩ := by decide +kernel
theorem own_pd_2 : parseMethodDescriptor "(IILjava/util/function/BiFunction;)I" = some ⟨[.int, .int, (.object "java/util/function/BiFunction")], some .int⟩ := by decide +kernel
theorem own_pd_3 : parseMethodDescriptor "(II)V" = some ⟨[.int, .int], none⟩ := by decide +kernel
theorem own_pd_4 : parseMethodDescriptor "()Z" = some ⟨[], some .boolean⟩ := by decide +kernel
theorem own_pd_5 : parseMethodDescriptor "([BI)C" = some ⟨[(.array .byte), .int], some .char⟩ := by decide +kernel
theorem own_pd_6 : parseMethodDescriptor "()I" = some ⟨[], some .int⟩ := by decide +kernel
theorem own_pd_7 : parseMethodDescriptor "([BI[BII)I" = some ⟨[(.array .byte), .int, (.array .byte), .int, .int], some .int⟩ := by decide +kernel
theorem own_pd_8 : parseMethodDescriptor "(Ljava/lang/String;I)Z" = some ⟨[(.object "java/lang/String"), .int], some .boolean⟩ := by decide +kernel
theorem own_pd_9 : parseMethodDescriptor "(I)Z" = some ⟨[.int], some .boolean⟩ := by decide +kernel
theorem own_pd_10 : parseMethodDescriptor "(II)I" = some ⟨[.int, .int], some .int⟩ := by decide +kernel
theorem own_pd_11 : parseMethodDescriptor "([BIII)I" = some ⟨[(.array .byte), .int, .int, .int], some .int⟩ := by decide +kernel
theorem own_pd_12 : parseMethodDescriptor "(I)C" = some ⟨[.int], some .char⟩ := by decide +kernel
theorem own_pd_13 : parseMethodDescriptor "(IIILjava/util/function/BiFunction;)I" = some ⟨[.int, .int, .int, (.object "java/util/function/BiFunction")], some .int⟩ := by decide +kernel
theorem own_pd_14 : parseMethodDescriptor "([BII)[B" = some ⟨[(.array .byte), .int, .int], some (.array .byte)⟩ := by decide +kernel
theorem own_pd_15 : parseMethodDescriptor "([BB)V" = some ⟨[(.array .byte), .byte], none⟩ := by decide +kernel
theorem own_pd_16 : parseMethodDescriptor "(III)V" = some ⟨[.int, .int, .int], none⟩ := by decide +kernel
theorem own_pd_17 : parseMethodDescriptor "([BII)Ljava/lang/String;" = some ⟨[(.array .byte), .int, .int], some (.object "java/lang/String")⟩ := by decide +kernel
theorem own_pd_18 : parseMethodDescriptor "([B[B)Z" = some ⟨[(.array .byte), (.array .byte)], some .boolean⟩ := by decide +kernel
theorem own_pd_19 : parseMethodDescriptor "(I)V" = some ⟨[.int], none⟩ := by decide +kernel
theorem own_pd_20 : parseMethodDescriptor "(Ljava/lang/String;)V" = some ⟨[(.object "java/lang/String")], none⟩ := by decide +kernel
theorem own_pd_21 : parseMethodDescriptor "([BIB)V" = some ⟨[(.array .byte), .int, .byte], none⟩ := by decide +kernel
theorem own_pd_22 : parseMethodDescriptor "(ILjava/lang/String;)V" = some ⟨[.int, (.object "java/lang/String")], none⟩ := by decide +kernel
theorem own_pd_23 : parseMethodDescriptor "(Ljava/lang/String;)Ljava/lang/AbstractStringBuilder;" = some ⟨[(.object "java/lang/String")], some (.object "java/lang/AbstractStringBuilder")⟩ := by decide +kernel
theorem own_pd_24 : parseMethodDescriptor "()[B" = some ⟨[], some (.array .byte)⟩ := by decide +kernel
theorem own_pd_25 : parseMethodDescriptor "(Ljava/lang/AbstractStringBuilder;Ljava/lang/Void;)V" = some ⟨[(.object "java/lang/AbstractStringBuilder"), (.object "java/lang/Void")], none⟩ := by decide +kernel
theorem own_pd_26 : parseMethodDescriptor "(Ljava/lang/StringBuilder;)V" = some ⟨[(.object "java/lang/StringBuilder")], none⟩ := by decide +kernel
theorem own_pd_27 : parseMethodDescriptor "(Ljava/lang/Object;)Z" = some ⟨[(.object "java/lang/Object")], some .boolean⟩ := by decide +kernel
theorem own_pd_28 : parseMethodDescriptor "()V" = some ⟨[], none⟩ := by decide +kernel
theorem own_pd_29 : parseMethodDescriptor "(Ljava/lang/String;)Ljava/lang/StringBuilder;" = some ⟨[(.object "java/lang/String")], some (.object "java/lang/StringBuilder")⟩ := by decide +kernel
theorem own_pd_30 : parseMethodDescriptor "()Ljava/lang/String;" = some ⟨[], some (.object "java/lang/String")⟩ := by decide +kernel
theorem own_pd_31 : parseMethodDescriptor "(Ljava/lang/String;)Z" = some ⟨[(.object "java/lang/String")], some .boolean⟩ := by decide +kernel
theorem own_pd_32 : parseMethodDescriptor "(I)I" = some ⟨[.int], some .int⟩ := by decide +kernel
theorem own_pd_33 : parseMethodDescriptor "(Ljava/lang/String;II)Z" = some ⟨[(.object "java/lang/String"), .int, .int], some .boolean⟩ := by decide +kernel
theorem own_pd_34 : parseMethodDescriptor "(II)Ljava/lang/String;" = some ⟨[.int, .int], some (.object "java/lang/String")⟩ := by decide +kernel
theorem own_pd_35 : parseMethodDescriptor "(Ljava/lang/Object;Ljava/lang/String;)Ljava/lang/Object;" = some ⟨[(.object "java/lang/Object"), (.object "java/lang/String")], some (.object "java/lang/Object")⟩ := by decide +kernel
theorem own_pd_36 : parseMethodDescriptor "(Ljava/lang/String;)Ljava/lang/String;" = some ⟨[(.object "java/lang/String")], some (.object "java/lang/String")⟩ := by decide +kernel
theorem own_pd_37 : parseMethodDescriptor "(ZLjava/lang/String;)V" = some ⟨[.boolean, (.object "java/lang/String")], none⟩ := by decide +kernel
theorem own_pd_38 : parseMethodDescriptor "(Lcom/example/ibex/ibex/model/Constant;)Z" = some ⟨[(.object "com/example/ibex/ibex/model/Constant")], some .boolean⟩ := by decide +kernel
theorem own_pd_39 : parseMethodDescriptor "([C)V" = some ⟨[(.array .char)], none⟩ := by decide +kernel
theorem own_pn_0 : plainName "java/lang/String" = true := by first | (simp [plainName, overriddenIn]; done) | decide +kernel
theorem own_pn_1 : plainName "com/example/ibex/ibex/model/ApproximateNumbersHoldsPinLaw" = true := by first | (simp [plainName, overriddenIn]; done) | decide +kernel
theorem own_pn_2 : plainName "jdk/internal/util/Preconditions" = true := by first | (simp [plainName, overriddenIn]; done) | decide +kernel
theorem own_pn_3 : plainName "java/lang/StringLatin1" = true := by first | (simp [plainName, overriddenIn]; done) | decide +kernel
theorem own_pn_4 : plainName "jdk/internal/util/ArraysSupport" = true := by first | (simp [plainName, overriddenIn]; done) | decide +kernel
theorem own_pn_5 : plainName "com/example/ibex/ibex/model/Constant" = true := by first | (simp [plainName, overriddenIn]; done) | decide +kernel
theorem own_pn_6 : plainName "java/util/Arrays" = true := by first | (simp [plainName, overriddenIn]; done) | decide +kernel
theorem own_pn_7 : plainName "java/lang/AbstractStringBuilder" = true := by first | (simp [plainName, overriddenIn]; done) | decide +kernel
theorem own_pn_8 : plainName "java/lang/StringBuilder" = true := by first | (simp [plainName, overriddenIn]; done) | decide +kernel
theorem own_pn_9 : plainName "java/lang/Record" = true := by first | (simp [plainName, overriddenIn]; done) | decide +kernel
theorem own_pn_10 : plainName "java/util/Objects" = true := by first | (simp [plainName, overriddenIn]; done) | decide +kernel
theorem own_pn_11 : plainName "com/example/ibex/ibex/model/ColumnType$ApproximateNumbers" = true := by first | (simp [plainName, overriddenIn]; done) | decide +kernel
theorem own_wS {Z : State} {a0 : Array Value} (hw : ∀ d ∈ tables_1, d.before a0 Z = true) : ∀ a ∈ Bundle.stringAtoms, a.before a0 Z = true := by
  intro d hd
  simp only [Bundle.stringAtoms, List.mem_cons, List.not_mem_nil, or_false] at hd
  rcases hd with rfl | rfl | rfl | rfl | rfl | rfl | rfl
  · exact (ow7 hw)
  · exact (ow6 hw)
  · exact (ow24 hw)
  · exact (ow34 hw)
  · exact (ow32 hw)
  · exact (ow48 hw)
  · exact (ow49 hw)
def own_C8 (c : Int32) : Prop := ¬ c < 0 ∧ ¬ (255 : Int32) < c
theorem own_c8m (x : Int32) : own_C8 (x &&& (255 : Int32)) := by
  have a1 := c_and x 255 (by decide)
  have a2 : (255 : Int32).toInt = 255 := by decide
  have a3 : (0 : Int32).toInt = 0 := by decide
  exact ⟨by rw [Int32.lt_iff_toInt_lt]; omega, by rw [Int32.lt_iff_toInt_lt]; omega⟩
theorem own_narM (x : Int32) : nar .char (x &&& (255 : Int32)) = (x &&& (255 : Int32)) := i2c_mask x
theorem own_nar8 {c : Int32} (h : own_C8 c) : nar .char c = c := by
  have a1 := c_i2c c
  have a2 : (255 : Int32).toInt = 255 := by decide
  have a3 : (0 : Int32).toInt = 0 := by decide
  have a4 := mt Int32.lt_iff_toInt_lt.mpr h.1
  have a5 := mt Int32.lt_iff_toInt_lt.mpr h.2
  exact Int32.toInt_inj.mp (by show c.toUInt32.toUInt16.toUInt32.toInt32.toInt = c.toInt; omega)
theorem own_shr0 (x : Int32) : x >>> ((0 : Int32) &&& 31) = x := by
  have a := c_ishr x 0 0 (by decide)
  exact Int32.toInt_inj.mp (by rw [a]; simp)
theorem own_shl0 (x : Int32) : x <<< ((0 : Int32) &&& 31) = x := by
  have a := c_ishl x 0 0 (by decide)
  have b := rng32 x
  have c := rng32 (x <<< ((0 : Int32) &&& 31))
  have e : ((2 ^ 0 : Nat) : Int) = 1 := rfl
  rw [e, Int.mul_one] at a
  exact Int32.toInt_inj.mp (by omega)
theorem own_narB (x : Int32) : nar .byte x.toInt8.toInt32 = x.toInt8.toInt32 := by
  have a1 := c_i2b x
  have a2 := c_i2b x.toInt8.toInt32
  exact Int32.toInt_inj.mp (by show x.toInt8.toInt32.toInt8.toInt32.toInt = x.toInt8.toInt32.toInt; omega)
theorem own_c8n {c : Int32} (h : own_C8 c) : own_C8 (nar .char c) := by rw [own_nar8 h]; exact h
theorem own_c8l (x : Int64) : own_C8 (((x &&& (255 : Int64)).toInt32).toUInt32.toUInt16.toUInt32.toInt32) := by
  have a1 := c_i2c ((x &&& (255 : Int64)).toInt32)
  have a2 : (255 : Int32).toInt = 255 := by decide
  have a3 : (0 : Int32).toInt = 0 := by decide
  have a4 := c_maskL x 255 8 (by decide) (by decide)
  have a5 := c_l2i (x &&& (255 : Int64))
  have a6 := rng32 ((x &&& (255 : Int64)).toInt32)
  exact ⟨by rw [Int32.lt_iff_toInt_lt]; omega, by rw [Int32.lt_iff_toInt_lt]; omega⟩
theorem own_b8 {c k : Int32} (h : own_C8 c) (k0 : 0 ≤ k.toInt) (k1 : k.toInt < 128) : c.toInt8.toInt32 = k ↔ c = k := by
  have a1 := c_i2b c
  have a2 : (255 : Int32).toInt = 255 := by decide
  have a3 : (0 : Int32).toInt = 0 := by decide
  have a4 := mt Int32.lt_iff_toInt_lt.mpr h.1
  have a5 := mt Int32.lt_iff_toInt_lt.mpr h.2
  constructor
  · intro q; have q' := congrArg Int32.toInt q; exact Int32.toInt_inj.mp (by omega)
  · intro q; have q' := congrArg Int32.toInt q; exact Int32.toInt_inj.mp (by omega)
theorem own_cN : ∀ c ∈ ([] : List Int32), own_C8 c := fun _ q => nomatch q
theorem own_cC {a : Int32} {l : List Int32} (h : own_C8 a) (t : ∀ c ∈ l, own_C8 c) : ∀ c ∈ a :: l, own_C8 c := fun c q => (List.mem_cons.mp q).elim (fun e => e ▸ h) (t c)
theorem own_sw1 {Z : State} {a0 : Array Value} (hw : ∀ d ∈ tables_1, d.before a0 Z = true) : ∀ d ∈ StrChars.Road.words, d.before a0 Z = true := fun d hd => hw d ((by decide +kernel : ∀ d ∈ StrChars.Road.words, d ∈ tables_1) d hd)
def own_Afar (Z : State) (h : Heap) (w : Addr) : Prop := (∀ a, Exa Z h a "java/lang/String" → a ≠ w) ∧ (∀ t k n vs d, Arv Z h t k .byte n vs d → t ≠ w)
theorem own_afE {Z : State} {h : Heap} {w : Addr} {C : String} {n : Nat} {a0 : Array Value} (E : Exa Z h w C) (hC : C ≠ "java/lang/String") (wi : (Jvm.Cond.instantiable C n).before a0 Z = true) : own_Afar Z h w := ⟨fun a F => ne_exa F E hC.symm, fun t k n vs d V => (Exa.neArv E V wi).symm⟩
theorem own_afV {Z : State} {h : Heap} {w : Addr} {k : ClassId} {ty : FieldType} {z : Int32} {vs : List Value} {d : Value} {n : Nat} {a0 : Array Value} (V : Arv Z h w k ty z vs d) (hty : ty ≠ .byte) (wi : (Jvm.Cond.instantiable "java/lang/String" n).before a0 Z = true) : own_Afar Z h w := ⟨fun a F => Exa.neArv F V wi, fun t k n vs d W => own_neTy W V hty.symm⟩
section OwnN
variable {p : Program} {l : Launch} {e : Env} {R : Room} {s : State} {m : MethodId} {args : Array Value} {below : List Frame} {meth : Method} {c : Code} {T : State} {locs : List Loc} {cells slots kc ks : Nat} {Z : State} {a0 : Array Value} {h : Heap} {Q : Option Value → Heap → List Loc → Prop}
theorem own_callIN {y : MethodName} {bytes : ByteArray} {maxL : Nat} {rm : Room} {as' : Array Value} {own host : String} {index : Nat} (X : Stand p l e R s m args below meth c T locs cells slots) (hx : p.tables.exec = Jvm.exec) (hZ : Z.Warmed39 s.vm) (hown : s.vm.findClass own = some m.cls)
    (w1 : (Jvm.Cond.methodLinkNest own index y host).before a0 Z = true) (w2 : (Jvm.Cond.instanceMethod y).before a0 Z = true) (w3 : (Jvm.Cond.initialized y.cls).before a0 Z = true) (w4 : (Jvm.Cond.code y bytes maxL none).before a0 Z = true) (hM : own_Met l Z h y bytes maxL none rm as' Q) (W : Nat) (nc ns : Nat) (hy1 : y.name = "<init>")
    (hc : cells + nc ≤ R.cells) (hs : slots + ns ≤ R.slots) (eT : T.heap = h) {g : JFrame} (hg : g.method = m) (hsize : g.locals.size = c.maxLocals)
    (a : Addr) (argsL rest : List Value) (hlen : ∀ sig, parseMethodDescriptor y.desc = some sig → argsL.length = sig.parameters.length) (hstack : g.stack = argsL.reverse ++ .ref a :: rest) (has : (Value.ref a :: argsL).toArray = as') (hdg : decode c.code g.pc = .ok (.invokespecial index, 3))
    (hy : y.cls ≠ "java/lang/invoke/MethodHandle" ∧ y.cls ≠ "java/lang/invoke/VarHandle" := by decide) (hf : rm.frames + 1 ≤ R.frames := by decide) (hl : W + (maxL + 11) + rm.locals ≤ R.locals := by decide) (hW : 2 * g.monitorRoom + (rest.map fun v => v.category).sum ≤ W := by exact Nat.le_of_eq rfl) (hnc : rm.cells = nc := by rfl) (hns : rm.slots = ns := by rfl) :
    ∃ v T' L, Stand p l e R s m args below meth c T' (locs ++ L) (cells + nc) (slots + ns) ∧ Q v T'.heap L ∧ ∀ target, Steps p.tables e below (T'.setTop { g with pc := g.pc + 3, stack := v.toList ++ rest }) target → Steps p.tables e below (T.setTop g) target := by
  subst hnc hns
  obtain ⟨v, _, ⟨T', L', k', n'⟩, -, X', ⟨L, hQ, h1, h2, h3⟩, st⟩ := X.specialBackNest hx hy1 hown (Cond.methodLinkNest_wide hZ w1 :) (mvT hZ w2) (mvT hZ w4) hy (backOf (W := W) hM hZ w4 w3 hf hl) hg hsize (Steps.refl _) (a := a) (argsL := argsL) (rest := rest) hlen hstack hW hdg (fun _ _ => ⟨has, eT, hc, hs⟩)
  dsimp only [Pt.U, Pt.locs, Pt.cells, Pt.slots] at X' hQ h1 h2 h3 st
  subst h1 h2 h3
  exact ⟨v, T', L, X', hQ, fun _ k => st.trans k⟩
theorem own_niOf {C : String} {y z : MethodName} (w : (Jvm.Cond.selects C y z).before a0 Z = true) : ∃ c k, Z.vm.findClass z.cls = some c ∧ Z.vm.classes[c]? = some k ∧ k.isInterface = false := by
  obtain ⟨c2, r2, m2, -, -, q3, -, kP, hkP, hkPi⟩ := Cond.selects_spec w
  exact ⟨m2.cls, kP, findClass_of_methodNamed q3, hkP, hkPi⟩
theorem own_nfOf {U : State} {ar : Array Value} {C : String} {y y' z : MethodName} (w : (Jvm.Cond.selects C y' z).before ar U = true) (hz : z.cls = y.cls) : NotFace U y := fun r0 h0 => by
  obtain ⟨c2, r2, m2, -, -, q3, -, kP, hkP, hkPi⟩ := Cond.selects_spec w
  have e1 := findClass_of_methodNamed q3
  rw [hz] at e1
  have e2 : m2.cls = r0.cls := Option.some.inj (e1.symm.trans (findClass_of_methodNamed h0))
  exact ⟨kP, e2 ▸ hkP, hkPi⟩
theorem own_selSelf {C : String} {y : MethodName} (w : (Jvm.Cond.selects C y y).before a0 Z = true) (wp : (Jvm.Cond.privateMethod y).before a0 Z = true) (wi : (Jvm.Cond.instanceMethod y).before a0 Z = true) (hy : y.cls ≠ "java/lang/invoke/MethodHandle" ∧ y.cls ≠ "java/lang/invoke/VarHandle") : (Jvm.Cond.selects y.cls y y).before a0 Z = true := by
  obtain ⟨c, k, h1, h2, h3⟩ := own_niOf w
  exact selects_self_of_private h1 h2 h3 (Cond.privateMethod_at wp) wi hy
theorem own_same {C : String} {y y' z : MethodName} (w : (Jvm.Cond.selects C y' z).before a0 Z = true) (hz : z.cls = y.cls) (wi : (Jvm.Cond.instanceMethod y).before a0 Z = true) (hy : y.cls ≠ "java/lang/invoke/MethodHandle" ∧ y.cls ≠ "java/lang/invoke/VarHandle") : (Jvm.Cond.sameMethod y.cls y.cls y.name y.desc).before a0 Z = true := by
  obtain ⟨c, k, h1, h2, h3⟩ := own_niOf w
  rw [hz] at h1
  obtain ⟨mk, methM, hnamed, hmethM, -, -⟩ := Cond.instanceMethod_spec wi
  have hfound : Z.methodFound? y.cls y.name y.desc = some mk := State.methodFound?_of_named hnamed hy
  have hn' : Z.methodNamed? ⟨y.cls, y.name, y.desc⟩ = some mk := hnamed
  simp [Cond.before, Cond.holds, Cond.value, h1, h2, h3, hfound, hn']
theorem own_callK {y : MethodName} {bytes : ByteArray} {maxL : Nat} {ret : Option FieldType} {rm : Room} {as' : Array Value} {own : String} {index : Nat} (X : Stand p l e R s m args below meth c T locs cells slots) (hx : p.tables.exec = Jvm.exec) (hZ : Z.Warmed39 s.vm) (hown : s.vm.findClass own = some m.cls)
    (w1 : (Jvm.Cond.methodLink own index y).before a0 Z = true) (ws : (Jvm.Cond.sameMethod y.cls y.cls y.name y.desc).before a0 Z = true) (w2 : (Jvm.Cond.instanceMethod y).before a0 Z = true) (wu : (Jvm.Cond.superclass own y.cls).before a0 Z = true) (w3 : (Jvm.Cond.initialized y.cls).before a0 Z = true) (w4 : (Jvm.Cond.code y bytes maxL ret).before a0 Z = true) (hM : own_Met l Z h y bytes maxL ret rm as' Q) (W : Nat) (nc ns : Nat) (hy1 : y.name ≠ "<init>")
    (hc : cells + nc ≤ R.cells) (hs : slots + ns ≤ R.slots) (eT : T.heap = h) {g : JFrame} (hg : g.method = m) (hsize : g.locals.size = c.maxLocals)
    {C : String} (a : Addr) (E : Exa Z h a C) (argsL rest : List Value) (hlen : ∀ sig, parseMethodDescriptor y.desc = some sig → argsL.length = sig.parameters.length) (hstack : g.stack = argsL.reverse ++ .ref a :: rest) (has : (Value.ref a :: argsL).toArray = as') (hdg : decode c.code g.pc = .ok (.invokespecial index, 3))
    (hy : y.cls ≠ "java/lang/invoke/MethodHandle" ∧ y.cls ≠ "java/lang/invoke/VarHandle" := by decide) (hf : rm.frames + 1 ≤ R.frames := by decide) (hl : W + (maxL + 11) + rm.locals ≤ R.locals := by decide) (hW : 2 * g.monitorRoom + (rest.map fun v => v.category).sum ≤ W := by exact Nat.le_of_eq rfl) (hnc : rm.cells = nc := by rfl) (hns : rm.slots = ns := by rfl) :
    ∃ v T' L, Stand p l e R s m args below meth c T' (locs ++ L) (cells + nc) (slots + ns) ∧ Q v T'.heap L ∧ ∀ target, Steps p.tables e below (T'.setTop { g with pc := g.pc + 3, stack := v.toList ++ rest }) target → Steps p.tables e below (T.setTop g) target := by
  subst hnc hns
  obtain ⟨v, _, ⟨T', L', k', n'⟩, -, X', ⟨L, hQ, h1, h2, h3⟩, st⟩ := superBack X hx hZ hown w1 ws w2 wu hy1 (backOf (W := W) hM hZ w4 w3 hf hl) eT (Ins.self E) hg hsize w4 (argsL := argsL) (rest := rest) hlen hstack hW hdg (fun _ _ => ⟨has, eT, hc, hs⟩)
  dsimp only [Pt.U, Pt.locs, Pt.cells, Pt.slots] at X' hQ h1 h2 h3 st
  subst h1 h2 h3
  exact ⟨v, T', L, X', hQ, fun _ k => st.trans k⟩
end OwnN
def own_D (c : Int32) : Prop := 48 ≤ c.toInt ∧ c.toInt ≤ 57
def own_Dg (b : Int32) : Prop := ¬ (b &&& (255 : Int32)) < (48 : Int32) ∧ ¬ (57 : Int32) < (b &&& (255 : Int32)) ∧ ¬ b = (46 : Int32) ∧ ¬ b = (45 : Int32)
theorem own_dig (p : Int32) : own_D (nar .char (((48 : Int32) + ((p &&& (2147483647 : Int32)) % (10 : Int32))).toUInt32.toUInt16.toUInt32.toInt32)) := by
  have a1 := c_mask p 2147483647 31 (by decide) (by decide)
  have a2 := c_irem (p &&& 2147483647) 10 10 rfl
  have a3 := c_iadd 48 ((p &&& 2147483647) % 10)
  have a4 : (48 : Int32).toInt = 48 := by decide
  have a5 := rng32 (48 + ((p &&& 2147483647) % 10))
  have a6 := c_i2c (48 + ((p &&& 2147483647) % 10))
  have a7 := c_i2c ((48 + ((p &&& 2147483647) % 10)).toUInt32.toUInt16.toUInt32.toInt32)
  show 48 ≤ ((48 + ((p &&& 2147483647) % 10)).toUInt32.toUInt16.toUInt32.toInt32).toUInt32.toUInt16.toUInt32.toInt32.toInt ∧ _
  constructor
  · omega
  · show ((48 + ((p &&& 2147483647) % 10)).toUInt32.toUInt16.toUInt32.toInt32).toUInt32.toUInt16.toUInt32.toInt32.toInt ≤ 57
    omega
theorem own_D8 {c : Int32} (h : own_D c) : own_C8 c := by
  have a1 : (0 : Int32).toInt = 0 := by decide
  have a2 : (255 : Int32).toInt = 255 := by decide
  obtain ⟨h1, h2⟩ := h
  exact ⟨by rw [Int32.lt_iff_toInt_lt]; omega, by rw [Int32.lt_iff_toInt_lt]; omega⟩
theorem own_Db {c : Int32} (h : own_D c) : own_Dg (c.toInt8.toInt32) := by
  obtain ⟨h1, h2⟩ := h
  have b1 := c_i2b c
  have b2 := c_mask (c.toInt8.toInt32) 255 8 (by decide) (by decide)
  have e1 : (48 : Int32).toInt = 48 := by decide
  have e2 : (57 : Int32).toInt = 57 := by decide
  have e3 : (46 : Int32).toInt = 46 := by decide
  have e4 : (45 : Int32).toInt = 45 := by decide
  refine ⟨by rw [Int32.lt_iff_toInt_lt]; omega, by rw [Int32.lt_iff_toInt_lt]; omega, fun q => ?_, fun q => ?_⟩
  · have := congrArg Int32.toInt q; omega
  · have := congrArg Int32.toInt q; omega
theorem own_neN {Z : State} {h : Heap} {a b : Addr} {k k' : ClassId} {ty ty' : FieldType} {z z' : Int32} {vs vs' : List Value} {d d' : Value} (F : Arv Z h a k ty z vs d) (G : Arv Z h b k' ty' z' vs' d') (hn : z.toNatClampNeg ≠ z'.toNatClampNeg) : a ≠ b := by
  rintro rfl
  obtain ⟨c1, A, -, S, -⟩ := F
  obtain ⟨c2, A', -, S', -⟩ := G
  cases A.1.symm.trans A'.1
  exact hn (S.symm.trans S')
def own_Rg (a b n : Int32) : Prop := ¬ a < (0 : Int32) ∧ ¬ b < a ∧ ¬ n < b ∧ b.toInt - a.toInt ≤ 16
def own_Ft (c n : Int32) : Prop := ¬ c < (0 : Int32) ∧ ¬ n < (0 : Int32) ∧ c.toNatClampNeg + n.toNatClampNeg ≤ (16 : Int32).toNatClampNeg
theorem own_rgI {a b n : Int32} (h : own_Rg a b n) : 0 ≤ a.toInt ∧ a.toInt ≤ b.toInt ∧ b.toInt ≤ n.toInt ∧ b.toInt - a.toInt ≤ 16 ∧ (b - a).toInt = b.toInt - a.toInt ∧ (n - a).toInt = n.toInt - a.toInt := by
  obtain ⟨h1, h2, h3, h4⟩ := h
  have e0 : (0 : Int32).toInt = 0 := by decide
  have a1 := mt Int32.lt_iff_toInt_lt.mpr h1
  have a2 := mt Int32.lt_iff_toInt_lt.mpr h2
  have a3 := mt Int32.lt_iff_toInt_lt.mpr h3
  have r1 := rng32 a
  have r2 := rng32 b
  have r3 := rng32 n
  have r4 := rng32 (b - a)
  have r5 := rng32 (n - a)
  have c1 := c_isub b a
  have c2 := c_isub n a
  omega
theorem own_cp3 {a b n : Int32} (h : own_Rg a b n) : ¬ (b - a) < (0 : Int32) := by
  have q := own_rgI h
  have e0 : (0 : Int32).toInt = 0 := by decide
  rw [Int32.lt_iff_toInt_lt]; omega
theorem own_cp7 {a b n : Int32} (h : own_Rg a b n) : (b - a).toNatClampNeg ≤ 16 := by
  have q := own_rgI h
  show (b - a).toInt.toNat ≤ 16
  omega
theorem own_cp4 {a b n : Int32} (h : own_Rg a b n) : a.toNatClampNeg + (b - a).toNatClampNeg ≤ n.toNatClampNeg := by
  have q := own_rgI h
  show a.toInt.toNat + (b - a).toInt.toNat ≤ n.toInt.toNat
  omega
theorem own_cp5 {a b n : Int32} (_ : own_Rg a b n) : (0 : Int32).toNatClampNeg + (b - a).toNatClampNeg ≤ (b - a).toNatClampNeg := by
  show 0 + _ ≤ _
  omega
theorem own_cp6 {a b n : Int32} {l : List Value} (h : own_Rg a b n) : (0 : Int32).toNatClampNeg + (b - a).toNatClampNeg ≤ (l ++ List.replicate 16 (Value.int (0 : Int32))).length := by
  have q := own_cp7 h
  rw [List.length_append, List.length_replicate]
  show 0 + _ ≤ _
  omega
theorem own_eqB {a b n : Int32} (h : own_Rg a b n) (g : ¬ (b - a) < (n - a)) : (n - a) = (b - a) := by
  have q := own_rgI h
  have a1 := mt Int32.lt_iff_toInt_lt.mpr g
  exact Int32.toInt_inj.mp (by omega)
theorem own_cp3B {a b n : Int32} (h : own_Rg a b n) (g : ¬ (b - a) < (n - a)) : ¬ (n - a) < (0 : Int32) := by rw [own_eqB h g]; exact own_cp3 h
theorem own_cp4B {a b n : Int32} (h : own_Rg a b n) (g : ¬ (b - a) < (n - a)) : a.toNatClampNeg + (n - a).toNatClampNeg ≤ n.toNatClampNeg := by rw [own_eqB h g]; exact own_cp4 h
theorem own_cp5B {a b n : Int32} (h : own_Rg a b n) (g : ¬ (b - a) < (n - a)) : (0 : Int32).toNatClampNeg + (n - a).toNatClampNeg ≤ (b - a).toNatClampNeg := by rw [own_eqB h g]; exact own_cp5 h
theorem own_cp6B {a b n : Int32} {l : List Value} (h : own_Rg a b n) (g : ¬ (b - a) < (n - a)) : (0 : Int32).toNatClampNeg + (n - a).toNatClampNeg ≤ (l ++ List.replicate 16 (Value.int (0 : Int32))).length := by rw [own_eqB h g]; exact own_cp6 h
theorem own_as (a b : Int32) : (a + b) - a = b := by
  have c1 := c_iadd a b
  have c2 := c_isub (a + b) a
  have r1 := rng32 (a + b)
  have r2 := rng32 b
  have r3 := rng32 ((a + b) - a)
  have r4 := rng32 a
  exact Int32.toInt_inj.mp (by omega)
theorem own_ft4 {c n : Int32} (_ : own_Ft c n) : (0 : Int32).toNatClampNeg + n.toNatClampNeg ≤ n.toNatClampNeg := by
  show 0 + _ ≤ _
  omega
theorem own_ft6 {c n : Int32} {l : List Value} (h : own_Ft c n) : c.toNatClampNeg + n.toNatClampNeg ≤ (l ++ List.replicate 16 (Value.int (0 : Int32))).length := by
  have q := h.2.2
  have e : (16 : Int32).toNatClampNeg = 16 := by decide
  rw [List.length_append, List.length_replicate]
  omega
theorem own_BA1 {Z : State} {h : Heap} {t : Addr} {k : ClassId} {vs : List Value} (F : Arv Z h t k .byte (1 : Int32) vs (.int (0 : Int32))) : ∃ (k' : ClassId) (x : Int32), Arv Z h t k' .byte (1 : Int32) [.int x] (.int (0 : Int32)) := by
  obtain ⟨c, A, r1, r2, r3, H, G⟩ := F
  have hs : c.slots.size = 1 := r2
  have g0 := G 0 (by omega)
  obtain ⟨x, hx⟩ : ∃ x, vs.getD 0 (.int (0 : Int32)) = .int x := by
    cases hv : vs.getD 0 (.int (0 : Int32)) <;> rw [hv] at g0 <;> simp [fits] at g0 ⊢
  refine ⟨k, x, c, A, r1, r2, r3, fun i hi => ?_, fun i hi => ?_⟩
  · obtain rfl : i = 0 := by omega
    rw [H 0 hi, hx]; rfl
  · obtain rfl : i = 0 := by omega
    rw [hx] at g0; exact g0
def own_Dot (Z : State) (h : Heap) (t : Addr) (nz rd : Int32) : Prop := (∃ (kt : ClassId) (x1 x3 : Int32), nz = (4 : Int32) ∧ rd = (2 : Int32) ∧ Arv Z h t kt .byte (4 : Int32) [(.int (45 : Int32)), (.int x1), (.int (46 : Int32)), (.int x3)] (.int (0 : Int32)) ∧ own_Dg x1 ∧ own_Dg x3) ∨ (∃ (kt : ClassId) (x1 x2 : Int32), nz = (3 : Int32) ∧ rd = (-1 : Int32) ∧ Arv Z h t kt .byte (3 : Int32) [(.int (45 : Int32)), (.int x1), (.int x2)] (.int (0 : Int32)) ∧ own_Dg x1 ∧ own_Dg x2) ∨ (∃ (kt : ClassId) (x0 x2 : Int32), nz = (3 : Int32) ∧ rd = (1 : Int32) ∧ Arv Z h t kt .byte (3 : Int32) [(.int x0), (.int (46 : Int32)), (.int x2)] (.int (0 : Int32)) ∧ own_Dg x0 ∧ own_Dg x2) ∨ (∃ (kt : ClassId) (x0 x1 : Int32), nz = (2 : Int32) ∧ rd = (-1 : Int32) ∧ Arv Z h t kt .byte (2 : Int32) [(.int x0), (.int x1)] (.int (0 : Int32)) ∧ own_Dg x0 ∧ own_Dg x1)
theorem own_DotX {Z : State} {h h' : Heap} {t : Addr} {nz rd : Int32} (N : own_Dot Z h t nz rd) (X : Ext h h') : own_Dot Z h' t nz rd := by
  rcases N with ⟨kt, x1, x3, e1, e2, g3, g4⟩ | ⟨kt, x1, x2, e1, e2, g3, g4⟩ | ⟨kt, x0, x2, e1, e2, g3, g4⟩ | ⟨kt, x0, x1, e1, e2, g3, g4⟩
  · exact Or.inl ⟨kt, x1, x3, e1, e2, g3.ext X, g4⟩
  · exact Or.inr (Or.inl ⟨kt, x1, x2, e1, e2, g3.ext X, g4⟩)
  · exact Or.inr (Or.inr (Or.inl ⟨kt, x0, x2, e1, e2, g3.ext X, g4⟩))
  · exact Or.inr (Or.inr (Or.inr (⟨kt, x0, x1, e1, e2, g3.ext X, g4⟩)))
theorem own_DotK {Z : State} {h h' : Heap} {t : Addr} {nz rd : Int32} (N : own_Dot Z h t nz rd) (K : Keep h h' []) : own_Dot Z h' t nz rd := by
  rcases N with ⟨kt, x1, x3, e1, e2, g3, g4⟩ | ⟨kt, x1, x2, e1, e2, g3, g4⟩ | ⟨kt, x0, x2, e1, e2, g3, g4⟩ | ⟨kt, x0, x1, e1, e2, g3, g4⟩
  · exact Or.inl ⟨kt, x1, x3, e1, e2, g3.keep K nin0, g4⟩
  · exact Or.inr (Or.inl ⟨kt, x1, x2, e1, e2, g3.keep K nin0, g4⟩)
  · exact Or.inr (Or.inr (Or.inl ⟨kt, x0, x2, e1, e2, g3.keep K nin0, g4⟩))
  · exact Or.inr (Or.inr (Or.inr (⟨kt, x0, x1, e1, e2, g3.keep K nin0, g4⟩)))
def own_Num (Z : State) (h : Heap) (a : Addr) : Prop := (∃ (t : Addr) (kt : ClassId) (x1 x3 : Int32), Fld Z h a "java/lang/String" "value" "[B" (.ref t) ∧ Fld Z h a "java/lang/String" "coder" "B" (.int (0 : Int32)) ∧ Arv Z h t kt .byte (4 : Int32) [(.int (45 : Int32)), (.int x1), (.int (46 : Int32)), (.int x3)] (.int (0 : Int32)) ∧ own_Dg x1 ∧ own_Dg x3) ∨ (∃ (t : Addr) (kt : ClassId) (x1 x2 : Int32), Fld Z h a "java/lang/String" "value" "[B" (.ref t) ∧ Fld Z h a "java/lang/String" "coder" "B" (.int (0 : Int32)) ∧ Arv Z h t kt .byte (3 : Int32) [(.int (45 : Int32)), (.int x1), (.int x2)] (.int (0 : Int32)) ∧ own_Dg x1 ∧ own_Dg x2) ∨ (∃ (t : Addr) (kt : ClassId) (x0 x2 : Int32), Fld Z h a "java/lang/String" "value" "[B" (.ref t) ∧ Fld Z h a "java/lang/String" "coder" "B" (.int (0 : Int32)) ∧ Arv Z h t kt .byte (3 : Int32) [(.int x0), (.int (46 : Int32)), (.int x2)] (.int (0 : Int32)) ∧ own_Dg x0 ∧ own_Dg x2) ∨ (∃ (t : Addr) (kt : ClassId) (x0 x1 : Int32), Fld Z h a "java/lang/String" "value" "[B" (.ref t) ∧ Fld Z h a "java/lang/String" "coder" "B" (.int (0 : Int32)) ∧ Arv Z h t kt .byte (2 : Int32) [(.int x0), (.int x1)] (.int (0 : Int32)) ∧ own_Dg x0 ∧ own_Dg x1)
theorem own_NumX {Z : State} {h h' : Heap} {a : Addr} (N : own_Num Z h a) (X : Ext h h') : own_Num Z h' a := by
  rcases N with ⟨t, kt, x1, x3, g1, g2, g3, g4⟩ | ⟨t, kt, x1, x2, g1, g2, g3, g4⟩ | ⟨t, kt, x0, x2, g1, g2, g3, g4⟩ | ⟨t, kt, x0, x1, g1, g2, g3, g4⟩
  · exact Or.inl ⟨t, kt, x1, x3, g1.ext X, g2.ext X, g3.ext X, g4⟩
  · exact Or.inr (Or.inl ⟨t, kt, x1, x2, g1.ext X, g2.ext X, g3.ext X, g4⟩)
  · exact Or.inr (Or.inr (Or.inl ⟨t, kt, x0, x2, g1.ext X, g2.ext X, g3.ext X, g4⟩))
  · exact Or.inr (Or.inr (Or.inr (⟨t, kt, x0, x1, g1.ext X, g2.ext X, g3.ext X, g4⟩)))
theorem own_NumK {Z : State} {h h' : Heap} {a : Addr} {ws : List Addr} (N : own_Num Z h a) (E : Exa Z h a "java/lang/String") (K : Keep h h' ws) (q : ∀ w ∈ ws, own_Afar Z h w) : own_Num Z h' a := by
  have qa : a ∉ ws := fun hm => (q a hm).1 a E rfl
  rcases N with ⟨t, kt, x1, x3, g1, g2, g3, g4⟩ | ⟨t, kt, x1, x2, g1, g2, g3, g4⟩ | ⟨t, kt, x0, x2, g1, g2, g3, g4⟩ | ⟨t, kt, x0, x1, g1, g2, g3, g4⟩
  · exact Or.inl ⟨t, kt, x1, x3, g1.keep K qa, g2.keep K qa, g3.keep K (fun hm => (q t hm).2 _ _ _ _ _ g3 rfl), g4⟩
  · exact Or.inr (Or.inl ⟨t, kt, x1, x2, g1.keep K qa, g2.keep K qa, g3.keep K (fun hm => (q t hm).2 _ _ _ _ _ g3 rfl), g4⟩)
  · exact Or.inr (Or.inr (Or.inl ⟨t, kt, x0, x2, g1.keep K qa, g2.keep K qa, g3.keep K (fun hm => (q t hm).2 _ _ _ _ _ g3 rfl), g4⟩))
  · exact Or.inr (Or.inr (Or.inr (⟨t, kt, x0, x1, g1.keep K qa, g2.keep K qa, g3.keep K (fun hm => (q t hm).2 _ _ _ _ _ g3 rfl), g4⟩)))
/-- the cell at w is no String, and has 16 places -/
def own_Far16 (Z : State) (h : Heap) (w : Addr) : Prop := ∀ cell : Cell, h[w]? = some cell → ¬ Z.vm.findClass "java/lang/String" = some cell.cls ∧ cell.slots.size = 16
theorem own_far16 {Z : State} {h : Heap} {w : Addr} {k : ClassId} {ty : FieldType} {vs : List Value} {d : Value} {n : Nat} {a0 : Array Value} (V : Arv Z h w k ty (16 : Int32) vs d) (wi : (Jvm.Cond.instantiable "java/lang/String" n).before a0 Z = true) : own_Far16 Z h w := fun cell hc => by
  obtain ⟨c1, A, -, S, -⟩ := V
  cases hc.symm.trans A.1
  obtain ⟨-, k3, j1, cm, j2⟩ := A.2.1
  refine ⟨fun q => ?_, S⟩
  obtain ⟨c2, k2, i1, i2, i3, -⟩ := Cond.instantiable_spec wi
  cases q.symm.trans i1
  cases j1.symm.trans i2
  rw [i3] at j2; cases j2
def own_Lt (Z : State) (a0 : Array Value) : Prop := ∀ e ∈ consts_1, ∃ text : String, (Jvm.Cond.stringLink e.1 e.2 text).before a0 Z = true ∧ text.toList.length < 16 ∧ ∀ c ∈ text.toList, c.toNat < 256
theorem own_JkeepB {Z : State} {vm : Vm} {h h' : Heap} {ws : List Addr} {a0 : Array Value} (L : own_Lt Z a0) (hZ : Z.Warmed39 vm) (hJ : own_J Z vm h) (K : Keep h h' ws) (far : ∀ w ∈ ws, own_Far Z h w ∨ own_Far16 Z h w) : own_J Z vm h' := fun e he c k cf i units a g1 g2 g3 g4 g5 g6 => by
  obtain ⟨text, ht, hl, h8⟩ := L e he
  have ht' : (Jvm.Cond.stringLink e.1 e.2 text).before a0 (own_at Z vm h) = true := mvS (s := { Z with heap := h }) hZ ht
  obtain ⟨k', cf', i', units', hk, hcf, hp0, hu0, hnm, htx, -⟩ := Cond.stringLink_spec (s := own_at Z vm h) g1 ht'
  cases (show vm.classes[c]? = some k from g2).symm.trans hk
  cases hcf.symm.trans g3
  cases hp0.symm.trans g4
  cases hu0.symm.trans g5
  obtain ⟨q, cS, h1, h2, h3, h4, h5⟩ := hJ e he c k cf i units a g1 g2 g3 g4 g5 g6
  have hal : Z.vm.Alike vm := hZ.alike
  obtain ⟨⟨s1, s2, s3, s4, s5, s6, s7, s8, s9, s10, s11, s12⟩, hfS, hcS⟩ := id h2
  have hsz : q.SA.slots.size = text.toList.length := by
    have e1 : q.SA.slots = units.map fun u => byteValue u.toUInt8 := by rw [h5, SBG.stringBytes_lat (Jvm.ClassFile.lat_of_text htx h8)]
    rw [e1, Array.size_map, ← Array.length_toList, Jvm.ClassFile.units_of_text htx h8, List.length_map]
  have hS : Z.vm.findClass "java/lang/String" = some q.sC.cls := by rw [hcS, ← hal.findClass]; exact hfS
  have n1 : q.sa ∉ ws := fun m => (far _ m).elim (fun f => (f _ s1).1 hS) (fun f => (f _ s1).1 hS)
  have n2 : q.sd ∉ ws := fun m => (far _ m).elim (fun f => (f _ s10).2 (by
    obtain ⟨t1, k, t2, cm, t3⟩ := s11
    obtain ⟨kb, hkb⟩ : ∃ kb, Z.vm.classes[q.SA.cls]? = some kb := by
      obtain ⟨kb, hkb, -⟩ := Vm.findClass_spec (show Z.vm.findClass "[B" = some q.SA.cls by rw [← hal.findClass]; exact h4)
      exact ⟨kb, hkb⟩
    obtain ⟨kb', hkb', ekb⟩ := hal.2.2 _ _ hkb
    cases t2.symm.trans hkb'
    exact ⟨t1, kb, hkb, cm, by rw [ekb] at t3; exact t3⟩)) (fun f => by have := (f _ s10).2; omega)
  exact ⟨q, cS, h1, SBG.Sl.carry (U := own_at Z vm h) (U' := own_at Z vm h') (Vm.Alike.refl vm) (K.2.1 _ _ s1 n1) (K.2.1 _ _ s10 n2) h2, h3, h4, h5⟩
theorem own_L16 {Z : State} {a0 : Array Value} (hw : ∀ d ∈ tables_1, d.before a0 Z = true) : own_Lt Z a0 := by
  intro e he
  simp only [consts_1, List.mem_cons, List.not_mem_nil, or_false] at he
  rcases he with rfl | rfl | rfl | rfl
  · exact ⟨_, hw _ (List.mem_of_getElem? (i := 47) rfl), by decide, by decide⟩
  · exact ⟨_, hw _ (List.mem_of_getElem? (i := 188) rfl), by decide, by decide⟩
  · exact ⟨_, hw _ (List.mem_of_getElem? (i := 57) rfl), by decide, by decide⟩
  · exact ⟨_, hw _ (List.mem_of_getElem? (i := 282) rfl), by decide, by decide⟩
def own_Olds (Z : State) (zc : Int32) (wsf : Value) : Prop := Sta Z Z.heap "java/lang/String" "COMPACT_STRINGS" "Z" (.int zc) ∧ ¬ zc = (0 : Int32) ∧ Sta Z Z.heap "jdk/internal/util/Preconditions" "SIOOBE_FORMATTER" "Ljava/util/function/BiFunction;" wsf ∧ wsf.isRef = true
theorem d3_0 : decode jdk_42_method_149_code 0 = .ok (.aload_n 0, 1) := by decide +kernel
theorem d3_1 : decode jdk_42_method_149_code 1 = .ok (.invokespecial 1, 3) := by decide +kernel
theorem d3_4 : decode jdk_42_method_149_code 4 = .ok (.iload_n 3, 1) := by decide +kernel
theorem d3_5 : decode jdk_42_method_149_code 5 = .ok (.ifCond .ne 22, 3) := by decide +kernel
theorem d3_8 : decode jdk_42_method_149_code 8 = .ok (.aload_n 0, 1) := by decide +kernel
theorem d3_9 : decode jdk_42_method_149_code 9 = .ok (.ldc 7, 2) := by decide +kernel
theorem d3_11 : decode jdk_42_method_149_code 11 = .ok (.getfield 9, 3) := by decide +kernel
theorem d3_14 : decode jdk_42_method_149_code 14 = .ok (.putfield 9, 3) := by decide +kernel
theorem d3_17 : decode jdk_42_method_149_code 17 = .ok (.aload_n 0, 1) := by decide +kernel
theorem d3_18 : decode jdk_42_method_149_code 18 = .ok (.ldc 7, 2) := by decide +kernel
theorem d3_20 : decode jdk_42_method_149_code 20 = .ok (.getfield 15, 3) := by decide +kernel
theorem d3_23 : decode jdk_42_method_149_code 23 = .ok (.putfield 15, 3) := by decide +kernel
theorem d3_26 : decode jdk_42_method_149_code 26 = .ok (.return_, 1) := by decide +kernel
def Q_st2E (Z : State) (zc : Int32) (wsf : Value) (a1 : Addr) (a2 : Addr) (k : ClassId) (h0 : Heap) (v : Option Value) (h : Heap) (L : List Loc) : Prop := (∃ t : Addr, ∃ kt : ClassId, v = none ∧ Fr Z.heap.size L ∧ Keep h0 h [a1] ∧ Exa Z h a1 "java/lang/String" ∧ Fld Z h a1 "java/lang/String" "coder" "B" (.int (0 : Int32)) ∧ Fld Z h a1 "java/lang/String" "value" "[B" (.ref t) ∧ Arv Z h t kt .byte (0 : Int32) [] (.int (0 : Int32)))
theorem ef_st2E (m : MethodId) (x0 : Addr) (x1 : Addr) : entryFrame m #[(.ref x0), (.ref x1), (.int (0 : Int32)), (.int (0 : Int32)), .null] 6 = mkF m 0 #[rv x0, rv x1, iv (0 : Int32), iv (0 : Int32), .val .null, .unset] [] := by first | (simp [entryFrame, mkF, argsToLocals, Value.category]; done) | rfl
set_option maxRecDepth 65536 in
set_option maxHeartbeats 40000000 in
theorem rm_st2E (l : Launch) (Z : State) (a0 : Array Value) (hw : own_W Z a0) {zc : Int32} {wsf : Value} (hO : own_Olds Z zc wsf) (ws : List Jvm.Cond) (a1 : Addr) (a2 : Addr) (k : ClassId) (h0 : Heap) (O0 : Ext Z.heap h0) (fp0 : Exa Z h0 a1 "java/lang/String") (fp1 : Fld Z h0 a1 "java/lang/String" "value" "[B" .null) (fp2 : Fld Z h0 a1 "java/lang/String" "coder" "B" (.int (0 : Int32))) (fp3 : Arv Z h0 a2 k .char (0 : Int32) [] (.int (0 : Int32))) (big_a1 : Z.heap.size ≤ a1) :
    MetFree l own_y0 (head1 (Jvm.Cond.code own_y0 jdk_42_method_149_code 6 none :: ws) ({ frames := 1, cells := 2, slots := 4, locals := 12 } : Room)) (fun a U => a = #[(.ref a1), (.ref a2), (.int (0 : Int32)), (.int (0 : Int32)), .null] ∧ Z.Warmed39 U.vm ∧ U.heap = h0 ∧ own_J Z U.vm U.heap) (fun _ _ _ _ _ => True) (fun _ U o U' => ∃ v L, o = .returned v ∧ ((Q_st2E Z zc wsf a1 a2 k h0) v U'.heap L ∧ own_J Z U'.vm U'.heap) ∧ ReturnedEndW U o U' L ({ frames := 1, cells := 2, slots := 4, locals := 12 } : Room).cells ({ frames := 1, cells := 2, slots := 4, locals := 12 } : Room).slots) := by
  refine own_metW (Q := (Q_st2E Z zc wsf a1 a2 k h0)) _ _ (plainFor_of_name own_pn_0) ?_
  intro p e s vm0 m below meth c T X0 hS hJ hJ0 hZ0 hI hs0 hx hby hml hret hlk hZ hown hnm e0
  replace hown : (s.setVm vm0).vm.findClass "java/lang/String" = some m.cls := hown
  replace hnm : meth.name = "<init>" := hnm
  have hml : c.maxLocals = 6 := hml
  obtain ⟨oCS, oCz, oSF, r_wsf⟩ := id hO
  have N0 := Fr.nil Z.heap.size
  have hL := own_Lhw hw
  have K0 := Keep.refl h0 [a1]
  refine own_goW (fun _ k => castTop (ef_st2E m a1 a2) k) ?_
  have ne1 : a2 ≠ a1 := (Ne.symm (Exa.neArv fp0 fp3 (ow6 hw)))
  show own_GoW p e below s _ _ _ _ (T.setTop (mkF m 0 #[rv a1, rv a2, iv (0 : Int32), iv (0 : Int32), .val .null, .unset] []))
  refine own_goW (fun _ k => XS.aloadN X0.here hx rfl (hb hby d3_0) rfl rfl k) ?_
  obtain ⟨T2, X2, e2, st2⟩ := initO X0 hx hZ hown (ow16 hw) (ow17 hw) (ow18 hw) e0 (g := (mkF m 1 #[rv a1, rv a2, iv (0 : Int32), iv (0 : Int32), .val .null, .unset] [(.ref a1)])) rfl (by rw [hml]; rfl) rfl (hb hby d3_1) (by decide) (W := 0) (by show 2 * 0 + _ ≤ _; exact Nat.le_of_eq rfl) (by decide)
  refine own_goW st2 ?_
  clear st2 X0 e0
  refine own_goW (fun _ k => XS.iloadN X2.here hx rfl (hb hby d3_4) rfl (XS.ifNo X2.here hx rfl (hb hby d3_5) rfl ((if0 _ _).trans (teq (by decide : (0 : Int32) = (0 : Int32))).2) (XS.aloadN X2.here hx rfl (hb hby d3_8) rfl rfl k))) ?_
  obtain ⟨b3, T3, h3, vm3, u3, X3, e3, E3, hSn, hZn, hownn, hJn, li3, tx3, sl3, st3⟩ := own_ldcK X2 hS hx hZ hown hL (List.mem_of_getElem? (i := 3) rfl) (ow282 hw) (own_wS hw) e2 hJ (by decide) (g := (mkF m 9 #[rv a1, rv a2, iv (0 : Int32), iv (0 : Int32), .val .null, .unset] [(.ref a1)])) rfl (hb hby d3_9) (n := 0) (by decide) (by decide) (by show _ ≤ 2; omega) (by show _ ≤ 4; omega)
  refine own_goW st3 ?_
  clear st3 X2 e2
  replace hS := hSn
  replace hZ := hZn
  replace hown := hownn
  replace hJ := hJn
  clear hSn hZn hownn hJn
  replace fp0 := fp0.ext E3
  replace fp1 := fp1.ext E3
  replace fp2 := fp2.ext E3
  replace O0 := own_oldExt O0 E3
  replace K0 := K0.ext E3
  clear E3
  obtain ⟨t3, kt3, g13, g23, g33, g43⟩ := own_litFacts hZ sl3 tx3 (by decide)
  clear sl3 tx3
  replace g43 : Arv Z h3 t3 kt3 .byte (0 : Int32) [] (.int (0 : Int32)) := g43
  obtain ⟨T4, X4, e4, st4⟩ := getF X3 hx hZ hown (host := "") (Or.inl (ow33 hw)) Via.refl e3 g33 (g := (mkF m 11 #[rv a1, rv a2, iv (0 : Int32), iv (0 : Int32), .val .null, .unset] [(.ref b3), (.ref a1)])) rfl rfl (hb hby d3_11)
  refine own_goW st4 ?_
  clear st4 X3 e3
  obtain ⟨T5, h5, X5, e5, W5, st5⟩ := putF X4 hx hZ hown (host := "") (Or.inl (ow33 hw)) Via.refl e4 fp1 fp0 (Or.inr ⟨(ow34 hw), rfl, hnm⟩) (ow6 hw) (ty := (.array .byte)) own_fd0 rfl rfl (g := (mkF m 14 #[rv a1, rv a2, iv (0 : Int32), iv (0 : Int32), .val .null, .unset] [(.ref t3), (.ref a1)])) rfl rfl (hb hby d3_14)
  refine own_goW st5 ?_
  clear st5 X4 e4
  replace N0 := Fr.snoc X5 N0 big_a1
  have hAp_a1 := own_apart hZ hJ fp1
  replace hJ := own_JwrS hZ hJ W5 hAp_a1 fp0 (ow6 hw)
  have ne6 : b3 ≠ a1 := (Fld.ne g33 fp1 (fun q => nomatch q))
  have ne7 : t3 ≠ a1 := (Ne.symm (Exa.neArv fp0 g43 (ow6 hw)))
  replace fp0 := fp0.wr W5
  replace fp1 := fp1.same W5
  replace fp2 := fp2.other W5 (.inr (own_sn0 hw))
  replace g13 := g13.wr W5
  replace g23 := g23.other W5 (Or.inl ne6)
  replace g33 := g33.other W5 (Or.inl ne6)
  replace g43 := g43.other W5 ne7
  replace O0 := own_oldWr O0 W5 big_a1
  replace K0 := K0.wr W5 (Or.inl (List.mem_of_getElem? (i := 0) rfl))
  replace hS := own_since hS (Nat.le_of_eq W5.size.symm)
  clear W5
  show own_GoW p e below s _ _ _ _ (T5.setTop (mkF m 17 #[rv a1, rv a2, iv (0 : Int32), iv (0 : Int32), .val .null, .unset] []))
  refine own_goW (fun _ k => XS.aloadN X5.here hx rfl (hb hby d3_17) rfl rfl k) ?_
  refine own_goW (ldcAgain X5 hx hZ hown (ow282 hw) li3 (g := (mkF m 18 #[rv a1, rv a2, iv (0 : Int32), iv (0 : Int32), .val .null, .unset] [(.ref a1)])) rfl (hb hby d3_18)) ?_
  obtain ⟨T9, X9, e9, st9⟩ := getF X5 hx hZ hown (host := "") (Or.inl (ow31 hw)) Via.refl e5 g23 (g := (mkF m 20 #[rv a1, rv a2, iv (0 : Int32), iv (0 : Int32), .val .null, .unset] [(.ref b3), (.ref a1)])) rfl rfl (hb hby d3_20)
  refine own_goW st9 ?_
  clear st9 X5 e5
  obtain ⟨T10, h10, X10, e10, W10, st10⟩ := putFN X9 hx hZ hown (ow31 hw) Via.refl e9 fp2 fp0 (Or.inr ⟨(ow32 hw), rfl, hnm⟩) (ow6 hw) (ty := .byte) (v' := (.int (0 : Int32))) own_fd1 rfl (by decide) (g := (mkF m 23 #[rv a1, rv a2, iv (0 : Int32), iv (0 : Int32), .val .null, .unset] [(.int (0 : Int32)), (.ref a1)])) rfl rfl (hb hby d3_23)
  refine own_goW st10 ?_
  clear st10 X9 e9
  replace N0 := Fr.snoc X10 N0 big_a1
  replace hJ := own_JwrS hZ hJ W10 hAp_a1 fp0 (ow6 hw)
  replace fp0 := fp0.wr W10
  replace fp1 := fp1.other W10 (.inr (own_sn0 hw).symm)
  replace fp2 := fp2.same W10
  replace g13 := g13.wr W10
  replace g23 := g23.other W10 (Or.inl ne6)
  replace g33 := g33.other W10 (Or.inl ne6)
  replace g43 := g43.other W10 ne7
  replace O0 := own_oldWr O0 W10 big_a1
  replace K0 := K0.wr W10 (Or.inl (List.mem_of_getElem? (i := 0) rfl))
  replace hS := own_since hS (Nat.le_of_eq W10.size.symm)
  clear W10
  show own_GoW p e below s _ _ _ _ (T10.setTop (mkF m 26 #[rv a1, rv a2, iv (0 : Int32), iv (0 : Int32), .val .null, .unset] []))
  refine own_retVW X10 hS hL hZ hJ hx hlk e10 hret (hb hby d3_26) (by show _ ≤ 2; omega) (by show _ ≤ 4; omega) ?_
  exact ⟨t3, kt3, rfl, N0, K0, fp0, fp2, fp1, g43⟩
theorem d2_0 : decode jdk_42_method_3_code 0 = .ok (.aload_n 0, 1) := by decide +kernel
theorem d2_1 : decode jdk_42_method_3_code 1 = .ok (.aload_n 1, 1) := by decide +kernel
theorem d2_2 : decode jdk_42_method_3_code 2 = .ok (.iconst 0, 1) := by decide +kernel
theorem d2_3 : decode jdk_42_method_3_code 3 = .ok (.aload_n 1, 1) := by decide +kernel
theorem d2_4 : decode jdk_42_method_3_code 4 = .ok (.arraylength, 1) := by decide +kernel
theorem d2_5 : decode jdk_42_method_3_code 5 = .ok (.aconst_null, 1) := by decide +kernel
theorem d2_6 : decode jdk_42_method_3_code 6 = .ok (.invokespecial 27, 3) := by decide +kernel
theorem d2_9 : decode jdk_42_method_3_code 9 = .ok (.return_, 1) := by decide +kernel
def Q_st1E (Z : State) (zc : Int32) (wsf : Value) (a1 : Addr) (a2 : Addr) (k : ClassId) (h0 : Heap) (v : Option Value) (h : Heap) (L : List Loc) : Prop := (∃ t : Addr, ∃ kt : ClassId, v = none ∧ Fr Z.heap.size L ∧ Keep h0 h [a1] ∧ Exa Z h a1 "java/lang/String" ∧ Fld Z h a1 "java/lang/String" "coder" "B" (.int (0 : Int32)) ∧ Fld Z h a1 "java/lang/String" "value" "[B" (.ref t) ∧ Arv Z h t kt .byte (0 : Int32) [] (.int (0 : Int32)))
theorem ef_st1E (m : MethodId) (x0 : Addr) (x1 : Addr) : entryFrame m #[(.ref x0), (.ref x1)] 2 = mkF m 0 #[rv x0, rv x1] [] := by first | (simp [entryFrame, mkF, argsToLocals, Value.category]; done) | rfl
set_option maxRecDepth 65536 in
set_option maxHeartbeats 40000000 in
theorem rm_st1E (l : Launch) (Z : State) (a0 : Array Value) (hw : own_W Z a0) {zc : Int32} {wsf : Value} (hO : own_Olds Z zc wsf) (ws : List Jvm.Cond) (a1 : Addr) (a2 : Addr) (k : ClassId) (h0 : Heap) (O0 : Ext Z.heap h0) (fp0 : Exa Z h0 a1 "java/lang/String") (fp1 : Fld Z h0 a1 "java/lang/String" "value" "[B" .null) (fp2 : Fld Z h0 a1 "java/lang/String" "coder" "B" (.int (0 : Int32))) (fp3 : Arv Z h0 a2 k .char (0 : Int32) [] (.int (0 : Int32))) (big_a1 : Z.heap.size ≤ a1) :
    MetFree l own_y1 (head1 (Jvm.Cond.code own_y1 jdk_42_method_3_code 2 none :: ws) ({ frames := 2, cells := 2, slots := 4, locals := 29 } : Room)) (fun a U => a = #[(.ref a1), (.ref a2)] ∧ Z.Warmed39 U.vm ∧ U.heap = h0 ∧ own_J Z U.vm U.heap) (fun _ _ _ _ _ => True) (fun _ U o U' => ∃ v L, o = .returned v ∧ ((Q_st1E Z zc wsf a1 a2 k h0) v U'.heap L ∧ own_J Z U'.vm U'.heap) ∧ ReturnedEndW U o U' L ({ frames := 2, cells := 2, slots := 4, locals := 29 } : Room).cells ({ frames := 2, cells := 2, slots := 4, locals := 29 } : Room).slots) := by
  refine own_metW (Q := (Q_st1E Z zc wsf a1 a2 k h0)) _ _ (plainFor_of_name own_pn_0) ?_
  intro p e s vm0 m below meth c T X0 hS hJ hJ0 hZ0 hI hs0 hx hby hml hret hlk hZ hown hnm e0
  replace hown : (s.setVm vm0).vm.findClass "java/lang/String" = some m.cls := hown
  replace hnm : meth.name = "<init>" := hnm
  have hml : c.maxLocals = 2 := hml
  obtain ⟨oCS, oCz, oSF, r_wsf⟩ := id hO
  have N0 := Fr.nil Z.heap.size
  have hL := own_Lhw hw
  have K0 := Keep.refl h0 [a1]
  refine own_goW (fun _ k => castTop (ef_st1E m a1 a2) k) ?_
  have ne1 : a2 ≠ a1 := (Ne.symm (Exa.neArv fp0 fp3 (ow6 hw)))
  show own_GoW p e below s _ _ _ _ (T.setTop (mkF m 0 #[rv a1, rv a2] []))
  refine own_goW (fun _ k => XS.aloadN X0.here hx rfl (hb hby d2_0) rfl rfl (XS.aloadN X0.here hx rfl (hb hby d2_1) rfl rfl (XS.iconst X0.here hx rfl (hb hby d2_2) (XS.aloadN X0.here hx rfl (hb hby d2_3) rfl rfl k)))) ?_
  show own_GoW p e below s _ _ _ _ (T.setTop (mkF m 4 #[rv a1, rv a2] [(.ref a2), (.int (0 : Int32)), (.ref a2), (.ref a1)]))
  obtain ⟨cl2, Ar2, -, S2, M2, -, -⟩ := id (fp3.keep K0 (ninS ne1 nin0))
  refine own_goW (X0.arraylength hx (by rw [e0]; exact Ar2.1) (State.isArrayOf_alike hZ.alike Ar2.2.1) (g := (mkF m 4 #[rv a1, rv a2] [(.ref a2), (.int (0 : Int32)), (.ref a2), (.ref a1)])) rfl rfl (hb hby d2_4)) ?_
  rw [len_of S2 M2]
  refine own_goW (fun _ k => XS.aconstNull X0.here hx rfl (hb hby d2_5) k) ?_
  obtain ⟨v3, T3, L3, X3, hSn, hZn, hownn, hQ3, hJn, st3⟩ := own_callIW (y := own_y0) X0 hS hL hJ hx hZ hown (ow12 hw) (ow13 hw) (ow7 hw) (ow15 hw) (rm_st2E l Z a0 hw hO [] a1 a2 k h0 O0 fp0 fp1 fp2 (fp3.keep K0 (ninS ne1 nin0)) big_a1) 0 2 4 rfl (by show _ ≤ 2; omega) (by show _ ≤ 4; omega) e0 (g := (mkF m 6 #[rv a1, rv a2] [.null, (.int (0 : Int32)), (.int (0 : Int32)), (.ref a2), (.ref a1)])) rfl (by rw [hml]; rfl) a1 [(.ref a2), (.int (0 : Int32)), (.int (0 : Int32)), .null] [] (lenOf own_pd_0 rfl) rfl rfl (hb hby d2_6)
  replace hS := hSn
  replace hZ := hZn
  replace hown := hownn
  replace hJ := hJn
  clear hSn hZn hownn hJn
  obtain ⟨w4, w5, rfl, Nc11, Kc10, f6, f7, f8, f9⟩ := hQ3
  refine own_goW st3 ?_
  clear st3 X0 e0
  replace N0 := Fr.app N0 Nc11
  clear Nc11
  replace fp0 := fp0.keep Kc10
  clear fp1
  clear fp2
  replace O0 := own_oldKeep O0 Kc10 (allS big_a1 all0)
  replace K0 := K0.trans Kc10 (allS (Or.inl (List.mem_of_getElem? (i := 0) rfl)) all0)
  clear Kc10
  show own_GoW p e below s _ _ _ _ (T3.setTop (mkF m 9 #[rv a1, rv a2] []))
  refine own_retVW X3 hS hL hZ hJ hx hlk (rfl : T3.heap = T3.heap) hret (hb hby d2_9) (by show _ ≤ 2; omega) (by show _ ≤ 4; omega) ?_
  exact ⟨w4, w5, rfl, N0, K0, f6, f7, f8, f9⟩
theorem d1_0 : decode method_2_code 0 = .ok (.bipush 48, 2) := by decide +kernel
theorem d1_2 : decode method_2_code 2 = .ok (.iload_n 0, 1) := by decide +kernel
theorem d1_3 : decode method_2_code 3 = .ok (.ldc 7, 2) := by decide +kernel
theorem d1_5 : decode method_2_code 5 = .ok (.iand, 1) := by decide +kernel
theorem d1_6 : decode method_2_code 6 = .ok (.bipush 10, 2) := by decide +kernel
theorem d1_8 : decode method_2_code 8 = .ok (.irem, 1) := by decide +kernel
theorem d1_9 : decode method_2_code 9 = .ok (.iadd, 1) := by decide +kernel
theorem d1_10 : decode method_2_code 10 = .ok (.i2c, 1) := by decide +kernel
theorem d1_11 : decode method_2_code 11 = .ok (.ireturn, 1) := by decide +kernel
def Q_digit (Z : State) (zc : Int32) (wsf : Value) (p1 : Int32) (h0 : Heap) (v : Option Value) (h : Heap) (L : List Loc) : Prop := (∃ cv : Int32, v = some (.int cv) ∧ Fr Z.heap.size L ∧ own_C8 cv ∧ own_Dg (cv.toInt8.toInt32) ∧ h = h0)
theorem ef_digit (m : MethodId) (x0 : Int32) : entryFrame m #[(.int x0)] 1 = mkF m 0 #[iv x0] [] := by first | (simp [entryFrame, mkF, argsToLocals, Value.category]; done) | rfl
set_option maxRecDepth 65536 in
set_option maxHeartbeats 40000000 in
theorem rm_digit (l : Launch) (Z : State) (a0 : Array Value) (hw : own_W Z a0) {zc : Int32} {wsf : Value} (hO : own_Olds Z zc wsf) (ws : List Jvm.Cond) (p1 : Int32) (h0 : Heap) (O0 : Ext Z.heap h0) :
    own_MF l Z h0 own_y2 method_2_code 1 (some .char) ({ frames := 0, cells := 0, slots := 0, locals := 0 } : Room) #[(.int p1)] (Q_digit Z zc wsf p1 h0) ws := by
  refine own_met (Q := (Q_digit Z zc wsf p1 h0)) _ _ (plainFor_of_name own_pn_1) ?_
  intro p e s m below meth c T X0 hx hby hml hret hlk hZ hown hnm e0
  replace hown : s.vm.findClass "com/example/ibex/ibex/model/ApproximateNumbersHoldsPinLaw" = some m.cls := hown
  replace hnm : meth.name = "digit" := hnm
  have hml : c.maxLocals = 1 := hml
  obtain ⟨oCS, oCz, oSF, r_wsf⟩ := id hO
  have N0 := Fr.nil Z.heap.size
  have K0 := Keep.refl h0 []
  refine own_go (fun _ k => castTop (ef_digit m p1) k) ?_
  show own_Go p e below s _ _ _ (T.setTop (mkF m 0 #[iv p1] []))
  refine own_go (fun _ k => XS.bipush X0.here hx rfl (hb hby d1_0) (XS.iloadN X0.here hx rfl (hb hby d1_2) rfl k)) ?_
  refine own_go (X0.ldcInt hx hown (mvT hZ (ow4 hw)) (g := (mkF m 3 #[iv p1] [(.int p1), (.int (48 : Int32))])) rfl (hb hby d1_3)) ?_
  refine own_go (fun _ k => XS.iand X0.here hx rfl (hb hby d1_5) rfl (XS.bipush X0.here hx rfl (hb hby d1_6) (iremM X0 hx rfl (hb hby d1_8) rfl (by decide : ¬ ((10 : Int32) = (0 : Int32))) (XS.iadd X0.here hx rfl (hb hby d1_9) rfl (XS.i2c X0.here hx rfl (hb hby d1_10) rfl k))))) ?_
  show own_Go p e below s _ _ _ (T.setTop (mkF m 11 #[iv p1] [(.int (((48 : Int32) + ((p1 &&& (2147483647 : Int32)) % (10 : Int32))).toUInt32.toUInt16.toUInt32.toInt32))]))
  refine own_retN X0 hx hlk e0 (t := .char) hret (by simp) (hb hby d1_11) (by show _ ≤ 0; omega) (by show _ ≤ 0; omega) ?_
  exact ⟨(nar .char (((48 : Int32) + ((p1 &&& (2147483647 : Int32)) % (10 : Int32))).toUInt32.toUInt16.toUInt32.toInt32)), rfl, N0, (own_D8 (own_dig p1)), (own_Db (own_dig p1)), rfl⟩
theorem d15_0 : decode jdk_42_method_152_code 0 = .ok (.getstatic 38, 3) := by decide +kernel
theorem d15_3 : decode jdk_42_method_152_code 3 = .ok (.ifCond .eq 10, 3) := by decide +kernel
theorem d15_6 : decode jdk_42_method_152_code 6 = .ok (.aload_n 0, 1) := by decide +kernel
theorem d15_7 : decode jdk_42_method_152_code 7 = .ok (.getfield 15, 3) := by decide +kernel
theorem d15_10 : decode jdk_42_method_152_code 10 = .ok (.goto 4, 3) := by decide +kernel
theorem d15_14 : decode jdk_42_method_152_code 14 = .ok (.ireturn, 1) := by decide +kernel
def Q_scoder (Z : State) (zc : Int32) (wsf : Value) (a1 : Addr) (h0 : Heap) (v : Option Value) (h : Heap) (L : List Loc) : Prop := (v = some (.int (0 : Int32)) ∧ Fr Z.heap.size L ∧ h = h0)
theorem ef_scoder (m : MethodId) (x0 : Addr) : entryFrame m #[(.ref x0)] 1 = mkF m 0 #[rv x0] [] := by first | (simp [entryFrame, mkF, argsToLocals, Value.category]; done) | rfl
set_option maxRecDepth 65536 in
set_option maxHeartbeats 40000000 in
theorem rm_scoder (l : Launch) (Z : State) (a0 : Array Value) (hw : own_W Z a0) {zc : Int32} {wsf : Value} (hO : own_Olds Z zc wsf) (ws : List Jvm.Cond) (a1 : Addr) (h0 : Heap) (O0 : Ext Z.heap h0) (fp0 : Fld Z h0 a1 "java/lang/String" "coder" "B" (.int (0 : Int32))) :
    own_MF l Z h0 own_y3 jdk_42_method_152_code 1 (some .byte) ({ frames := 0, cells := 0, slots := 0, locals := 0 } : Room) #[(.ref a1)] (Q_scoder Z zc wsf a1 h0) ws := by
  refine own_met (Q := (Q_scoder Z zc wsf a1 h0)) _ _ (plainFor_of_name own_pn_0) ?_
  intro p e s m below meth c T X0 hx hby hml hret hlk hZ hown hnm e0
  replace hown : s.vm.findClass "java/lang/String" = some m.cls := hown
  replace hnm : meth.name = "coder" := hnm
  have hml : c.maxLocals = 1 := hml
  obtain ⟨oCS, oCz, oSF, r_wsf⟩ := id hO
  have N0 := Fr.nil Z.heap.size
  have K0 := Keep.refl h0 []
  refine own_go (fun _ k => castTop (ef_scoder m a1) k) ?_
  show own_Go p e below s _ _ _ (T.setTop (mkF m 0 #[rv a1] []))
  obtain ⟨T1, X1, e1, st1⟩ := getS2 X0 hx hZ hown (host := "") (Or.inl (ow19 hw)) Via.refl e0 (oCS.ext O0) (g := (mkF m 0 #[rv a1] [])) rfl (hb hby d15_0)
  refine own_go st1 ?_
  clear st1 X0 e0
  refine own_go (fun _ k => XS.ifNo X1.here hx rfl (hb hby d15_3) rfl ((if0 _ _).trans (feq oCz).1) (XS.aloadN X1.here hx rfl (hb hby d15_6) rfl rfl k)) ?_
  obtain ⟨T2, X2, e2, st2⟩ := getF X1 hx hZ hown (host := "") (Or.inl (ow31 hw)) Via.refl e1 (fp0.keep K0 nin0) (g := (mkF m 7 #[rv a1] [(.ref a1)])) rfl rfl (hb hby d15_7)
  refine own_go st2 ?_
  clear st2 X1 e1
  refine own_go (fun _ k => XS.goto X2.here hx rfl (pc0 := 10) (pc' := 14) rfl (hb hby d15_10) (by decide) (by decide) k) ?_
  show own_Go p e below s _ _ _ (T2.setTop (mkF m 14 #[rv a1] [(.int (0 : Int32))]))
  refine own_retN X2 hx hlk e2 (t := .byte) hret (by simp) (hb hby d15_14) (by show _ ≤ 0; omega) (by show _ ≤ 0; omega) ?_
  exact ⟨(congrArg (fun z => some (Value.int z)) (by decide)), N0, rfl⟩
theorem d14_0 : decode jdk_42_method_54_code 0 = .ok (.aload_n 0, 1) := by decide +kernel
theorem d14_1 : decode jdk_42_method_54_code 1 = .ok (.getfield 9, 3) := by decide +kernel
theorem d14_4 : decode jdk_42_method_54_code 4 = .ok (.arraylength, 1) := by decide +kernel
theorem d14_5 : decode jdk_42_method_54_code 5 = .ok (.aload_n 0, 1) := by decide +kernel
theorem d14_6 : decode jdk_42_method_54_code 6 = .ok (.invokevirtual 335, 3) := by decide +kernel
theorem d14_9 : decode jdk_42_method_54_code 9 = .ok (.ishr, 1) := by decide +kernel
theorem d14_10 : decode jdk_42_method_54_code 10 = .ok (.ireturn, 1) := by decide +kernel
def Q_slenG (Z : State) (zc : Int32) (wsf : Value) (a1 : Addr) (t : Addr) (kt : ClassId) (nz : Int32) (vl : List Value) (h0 : Heap) (v : Option Value) (h : Heap) (L : List Loc) : Prop := (v = some (.int nz) ∧ Fr Z.heap.size L ∧ h = h0)
theorem ef_slenG (m : MethodId) (x0 : Addr) : entryFrame m #[(.ref x0)] 1 = mkF m 0 #[rv x0] [] := by first | (simp [entryFrame, mkF, argsToLocals, Value.category]; done) | rfl
set_option maxRecDepth 65536 in
set_option maxHeartbeats 40000000 in
theorem rm_slenG (l : Launch) (Z : State) (a0 : Array Value) (hw : own_W Z a0) {zc : Int32} {wsf : Value} (hO : own_Olds Z zc wsf) (ws : List Jvm.Cond) (a1 : Addr) (t : Addr) (kt : ClassId) (nz : Int32) (vl : List Value) (h0 : Heap) (O0 : Ext Z.heap h0) (fp0 : Exa Z h0 a1 "java/lang/String") (fp1 : Fld Z h0 a1 "java/lang/String" "value" "[B" (.ref t)) (fp2 : Fld Z h0 a1 "java/lang/String" "coder" "B" (.int (0 : Int32))) (fp3 : Arv Z h0 t kt .byte nz vl (.int (0 : Int32))) :
    own_MF l Z h0 own_y4 jdk_42_method_54_code 1 (some .int) ({ frames := 1, cells := 0, slots := 0, locals := 13 } : Room) #[(.ref a1)] (Q_slenG Z zc wsf a1 t kt nz vl h0) ws := by
  refine own_met (Q := (Q_slenG Z zc wsf a1 t kt nz vl h0)) _ _ (plainFor_of_name own_pn_0) ?_
  intro p e s m below meth c T X0 hx hby hml hret hlk hZ hown hnm e0
  replace hown : s.vm.findClass "java/lang/String" = some m.cls := hown
  replace hnm : meth.name = "length" := hnm
  have hml : c.maxLocals = 1 := hml
  obtain ⟨oCS, oCz, oSF, r_wsf⟩ := id hO
  have N0 := Fr.nil Z.heap.size
  have K0 := Keep.refl h0 []
  refine own_go (fun _ k => castTop (ef_slenG m a1) k) ?_
  show own_Go p e below s _ _ _ (T.setTop (mkF m 0 #[rv a1] []))
  refine own_go (fun _ k => XS.aloadN X0.here hx rfl (hb hby d14_0) rfl rfl k) ?_
  obtain ⟨T1, X1, e1, st1⟩ := getF X0 hx hZ hown (host := "") (Or.inl (ow33 hw)) Via.refl e0 (fp1.keep K0 nin0) (g := (mkF m 1 #[rv a1] [(.ref a1)])) rfl rfl (hb hby d14_1)
  refine own_go st1 ?_
  clear st1 X0 e0
  show own_Go p e below s _ _ _ (T1.setTop (mkF m 4 #[rv a1] [(.ref t)]))
  obtain ⟨cl2, Ar2, -, S2, M2, -, -⟩ := id (fp3.keep K0 nin0)
  refine own_go (X1.arraylength hx (by rw [e1]; exact Ar2.1) (State.isArrayOf_alike hZ.alike Ar2.2.1) (g := (mkF m 4 #[rv a1] [(.ref t)])) rfl rfl (hb hby d14_4)) ?_
  rw [len_of S2 M2]
  refine own_go (fun _ k => XS.aloadN X1.here hx rfl (hb hby d14_5) rfl rfl k) ?_
  obtain ⟨v3, T3, L3, X3, hQ3, st3⟩ := own_callV (y := own_y3) (z := own_y3) X1 hx hZ hown (ow73 hw) (ow74 hw) (notFace_of_selects (args := #[]) (mvT hZ (ow76 hw))) (ow76 hw) (ow75 hw) (ow7 hw) (ow77 hw) (rm_scoder l Z a0 hw hO [] a1 h0 O0 (fp2.keep K0 nin0)) 1 0 0 (by show _ ≤ 0; omega) (by show _ ≤ 0; omega) e1 (fp0.keep K0) (g := (mkF m 6 #[rv a1] [(.ref a1), (.int nz)])) rfl (by rw [hml]; rfl) [] [(.int nz)] (lenOf own_pd_1 rfl) rfl rfl (hb hby d14_6)
  obtain ⟨rfl, Nc5, Kc4⟩ := hQ3
  refine own_go st3 ?_
  clear st3 X1 e1
  replace N0 := Fr.app N0 Nc5
  clear Nc5
  refine own_go (fun _ k => XS.ishr X3.here hx rfl (hb hby d14_9) rfl k) ?_
  show own_Go p e below s _ _ _ (T3.setTop (mkF m 10 #[rv a1] [(.int (nz >>> ((0 : Int32) &&& 31)))]))
  rw [own_shr0 nz]
  show own_Go p e below s _ _ _ (T3.setTop (mkF m 10 #[rv a1] [(.int nz)]))
  refine own_retI X3 hx hlk Kc4 hret (hb hby d14_10) (by show _ ≤ 0; omega) (by show _ ≤ 0; omega) ?_
  exact ⟨rfl, N0, rfl⟩
theorem d19_0 : decode jdk_42_method_154_code 0 = .ok (.getstatic 38, 3) := by decide +kernel
theorem d19_3 : decode jdk_42_method_154_code 3 = .ok (.ifCond .eq 14, 3) := by decide +kernel
theorem d19_6 : decode jdk_42_method_154_code 6 = .ok (.aload_n 0, 1) := by decide +kernel
theorem d19_7 : decode jdk_42_method_154_code 7 = .ok (.getfield 15, 3) := by decide +kernel
theorem d19_10 : decode jdk_42_method_154_code 10 = .ok (.ifCond .ne 7, 3) := by decide +kernel
theorem d19_13 : decode jdk_42_method_154_code 13 = .ok (.iconst 1, 1) := by decide +kernel
theorem d19_14 : decode jdk_42_method_154_code 14 = .ok (.goto 4, 3) := by decide +kernel
theorem d19_18 : decode jdk_42_method_154_code 18 = .ok (.ireturn, 1) := by decide +kernel
def Q_isLat (Z : State) (zc : Int32) (wsf : Value) (a1 : Addr) (h0 : Heap) (v : Option Value) (h : Heap) (L : List Loc) : Prop := (v = some (.int (1 : Int32)) ∧ Fr Z.heap.size L ∧ h = h0)
theorem ef_isLat (m : MethodId) (x0 : Addr) : entryFrame m #[(.ref x0)] 1 = mkF m 0 #[rv x0] [] := by first | (simp [entryFrame, mkF, argsToLocals, Value.category]; done) | rfl
set_option maxRecDepth 65536 in
set_option maxHeartbeats 40000000 in
theorem rm_isLat (l : Launch) (Z : State) (a0 : Array Value) (hw : own_W Z a0) {zc : Int32} {wsf : Value} (hO : own_Olds Z zc wsf) (ws : List Jvm.Cond) (a1 : Addr) (h0 : Heap) (O0 : Ext Z.heap h0) (fp0 : Fld Z h0 a1 "java/lang/String" "coder" "B" (.int (0 : Int32))) :
    own_MF l Z h0 own_y5 jdk_42_method_154_code 1 (some .boolean) ({ frames := 0, cells := 0, slots := 0, locals := 0 } : Room) #[(.ref a1)] (Q_isLat Z zc wsf a1 h0) ws := by
  refine own_met (Q := (Q_isLat Z zc wsf a1 h0)) _ _ (plainFor_of_name own_pn_0) ?_
  intro p e s m below meth c T X0 hx hby hml hret hlk hZ hown hnm e0
  replace hown : s.vm.findClass "java/lang/String" = some m.cls := hown
  replace hnm : meth.name = "isLatin1" := hnm
  have hml : c.maxLocals = 1 := hml
  obtain ⟨oCS, oCz, oSF, r_wsf⟩ := id hO
  have N0 := Fr.nil Z.heap.size
  have K0 := Keep.refl h0 []
  refine own_go (fun _ k => castTop (ef_isLat m a1) k) ?_
  show own_Go p e below s _ _ _ (T.setTop (mkF m 0 #[rv a1] []))
  obtain ⟨T1, X1, e1, st1⟩ := getS2 X0 hx hZ hown (host := "") (Or.inl (ow19 hw)) Via.refl e0 (oCS.ext O0) (g := (mkF m 0 #[rv a1] [])) rfl (hb hby d19_0)
  refine own_go st1 ?_
  clear st1 X0 e0
  refine own_go (fun _ k => XS.ifNo X1.here hx rfl (hb hby d19_3) rfl ((if0 _ _).trans (feq oCz).1) (XS.aloadN X1.here hx rfl (hb hby d19_6) rfl rfl k)) ?_
  obtain ⟨T2, X2, e2, st2⟩ := getF X1 hx hZ hown (host := "") (Or.inl (ow31 hw)) Via.refl e1 (fp0.keep K0 nin0) (g := (mkF m 7 #[rv a1] [(.ref a1)])) rfl rfl (hb hby d19_7)
  refine own_go st2 ?_
  clear st2 X1 e1
  refine own_go (fun _ k => XS.ifNo X2.here hx rfl (hb hby d19_10) rfl ((if0 _ _).trans (teq (by decide : (0 : Int32) = (0 : Int32))).2) (XS.iconst X2.here hx rfl (hb hby d19_13) (XS.goto X2.here hx rfl (pc0 := 14) (pc' := 18) rfl (hb hby d19_14) (by decide) (by decide) k))) ?_
  show own_Go p e below s _ _ _ (T2.setTop (mkF m 18 #[rv a1] [(.int (1 : Int32))]))
  refine own_retN X2 hx hlk e2 (t := .boolean) hret (by simp) (hb hby d19_18) (by show _ ≤ 0; omega) (by show _ ≤ 0; omega) ?_
  exact ⟨rfl, N0, rfl⟩
theorem d29_0 : decode jdk_41_method_11_code 0 = .ok (.iload_n 0, 1) := by decide +kernel
theorem d29_1 : decode jdk_41_method_11_code 1 = .ok (.ifCond .lt 8, 3) := by decide +kernel
theorem d29_4 : decode jdk_41_method_11_code 4 = .ok (.iload_n 0, 1) := by decide +kernel
theorem d29_5 : decode jdk_41_method_11_code 5 = .ok (.iload_n 1, 1) := by decide +kernel
theorem d29_6 : decode jdk_41_method_11_code 6 = .ok (.if_icmp .lt 10, 3) := by decide +kernel
theorem d29_16 : decode jdk_41_method_11_code 16 = .ok (.iload_n 0, 1) := by decide +kernel
theorem d29_17 : decode jdk_41_method_11_code 17 = .ok (.ireturn, 1) := by decide +kernel
def Q_pciG (Z : State) (zc : Int32) (wsf : Value) (p1 : Int32) (p2 : Int32) (gv3 : Value) (h0 : Heap) (v : Option Value) (h : Heap) (L : List Loc) : Prop := (v = some (.int p1) ∧ Fr Z.heap.size L ∧ h = h0)
theorem ef_pciG (m : MethodId) (x0 : Int32) (x1 : Int32) (x2 : Value) (hx2 : x2.isRef = true) : entryFrame m #[(.int x0), (.int x1), x2] 3 = mkF m 0 #[iv x0, iv x1, .val x2] [] := by first | (simp [entryFrame, mkF, argsToLocals, own_catR, own_catN, own_catI, own_catJ, own_cat1 hx2]; done) | rfl
set_option maxRecDepth 65536 in
set_option maxHeartbeats 40000000 in
theorem rm_pciG (l : Launch) (Z : State) (a0 : Array Value) (hw : own_W Z a0) {zc : Int32} {wsf : Value} (hO : own_Olds Z zc wsf) (ws : List Jvm.Cond) (p1 : Int32) (p2 : Int32) (gv3 : Value) (h0 : Heap) (O0 : Ext Z.heap h0) (r_gv3 : gv3.isRef = true) (hp1 : ¬ (p1 < (0 : Int32))) (hp2 : p1 < p2) :
    own_MF l Z h0 own_y6 jdk_41_method_11_code 3 (some .int) ({ frames := 0, cells := 0, slots := 0, locals := 0 } : Room) #[(.int p1), (.int p2), gv3] (Q_pciG Z zc wsf p1 p2 gv3 h0) ws := by
  refine own_met (Q := (Q_pciG Z zc wsf p1 p2 gv3 h0)) _ _ (plainFor_of_name own_pn_2) ?_
  intro p e s m below meth c T X0 hx hby hml hret hlk hZ hown hnm e0
  replace hown : s.vm.findClass "jdk/internal/util/Preconditions" = some m.cls := hown
  replace hnm : meth.name = "checkIndex" := hnm
  have hml : c.maxLocals = 3 := hml
  obtain ⟨oCS, oCz, oSF, r_wsf⟩ := id hO
  have N0 := Fr.nil Z.heap.size
  have K0 := Keep.refl h0 []
  refine own_go (fun _ k => castTop (ef_pciG m p1 p2 gv3 r_gv3) k) ?_
  show own_Go p e below s _ _ _ (T.setTop (mkF m 0 #[iv p1, iv p2, .val gv3] []))
  refine own_go (fun _ k => XS.iloadN X0.here hx rfl (hb hby d29_0) rfl (XS.ifNo X0.here hx rfl (hb hby d29_1) rfl ((if0 _ _).trans (flt hp1).1) (XS.iloadN X0.here hx rfl (hb hby d29_4) rfl (XS.iloadN X0.here hx rfl (hb hby d29_5) rfl (XS.icmpYes X0.here hx rfl (pc0 := 6) (pc' := 16) rfl (hb hby d29_6) rfl (tlt hp2).1 (by decide) (by decide) (XS.iloadN X0.here hx rfl (hb hby d29_16) rfl k)))))) ?_
  show own_Go p e below s _ _ _ (T.setTop (mkF m 17 #[iv p1, iv p2, .val gv3] [(.int p1)]))
  refine own_retI X0 hx hlk e0 hret (hb hby d29_17) (by show _ ≤ 0; omega) (by show _ ≤ 0; omega) ?_
  exact ⟨rfl, N0, rfl⟩
theorem d28_0 : decode jdk_42_method_155_code 0 = .ok (.iload_n 0, 1) := by decide +kernel
theorem d28_1 : decode jdk_42_method_155_code 1 = .ok (.iload_n 1, 1) := by decide +kernel
theorem d28_2 : decode jdk_42_method_155_code 2 = .ok (.getstatic 1053, 3) := by decide +kernel
theorem d28_5 : decode jdk_42_method_155_code 5 = .ok (.invokestatic 1059, 3) := by decide +kernel
theorem d28_8 : decode jdk_42_method_155_code 8 = .ok (.pop, 1) := by decide +kernel
theorem d28_9 : decode jdk_42_method_155_code 9 = .ok (.return_, 1) := by decide +kernel
def Q_sci (Z : State) (zc : Int32) (wsf : Value) (p1 : Int32) (p2 : Int32) (h0 : Heap) (v : Option Value) (h : Heap) (L : List Loc) : Prop := (v = none ∧ Fr Z.heap.size L ∧ h = h0)
theorem ef_sci (m : MethodId) (x0 : Int32) (x1 : Int32) : entryFrame m #[(.int x0), (.int x1)] 2 = mkF m 0 #[iv x0, iv x1] [] := by first | (simp [entryFrame, mkF, argsToLocals, Value.category]; done) | rfl
set_option maxRecDepth 65536 in
set_option maxHeartbeats 40000000 in
theorem rm_sci (l : Launch) (Z : State) (a0 : Array Value) (hw : own_W Z a0) {zc : Int32} {wsf : Value} (hO : own_Olds Z zc wsf) (ws : List Jvm.Cond) (p1 : Int32) (p2 : Int32) (h0 : Heap) (O0 : Ext Z.heap h0) (hp1 : ¬ (p1 < (0 : Int32))) (hp2 : p1 < p2) :
    own_MF l Z h0 own_y7 jdk_42_method_155_code 2 none ({ frames := 1, cells := 0, slots := 0, locals := 14 } : Room) #[(.int p1), (.int p2)] (Q_sci Z zc wsf p1 p2 h0) ws := by
  refine own_met (Q := (Q_sci Z zc wsf p1 p2 h0)) _ _ (plainFor_of_name own_pn_0) ?_
  intro p e s m below meth c T X0 hx hby hml hret hlk hZ hown hnm e0
  replace hown : s.vm.findClass "java/lang/String" = some m.cls := hown
  replace hnm : meth.name = "checkIndex" := hnm
  have hml : c.maxLocals = 2 := hml
  obtain ⟨oCS, oCz, oSF, r_wsf⟩ := id hO
  have N0 := Fr.nil Z.heap.size
  have K0 := Keep.refl h0 []
  refine own_go (fun _ k => castTop (ef_sci m p1 p2) k) ?_
  show own_Go p e below s _ _ _ (T.setTop (mkF m 0 #[iv p1, iv p2] []))
  refine own_go (fun _ k => XS.iloadN X0.here hx rfl (hb hby d28_0) rfl (XS.iloadN X0.here hx rfl (hb hby d28_1) rfl k)) ?_
  obtain ⟨T1, X1, e1, st1⟩ := getS2 X0 hx hZ hown (host := "") (Or.inl (ow129 hw)) Via.refl e0 (oSF.ext O0) (g := (mkF m 2 #[iv p1, iv p2] [(.int p2), (.int p1)])) rfl (hb hby d28_2)
  refine own_go st1 ?_
  clear st1 X0 e0
  obtain ⟨v2, T2, L2, X2, hQ2, st2⟩ := own_callS (y := own_y6) X1 hx hZ hown (ow131 hw) (ow132 hw) (ow130 hw) (ow133 hw) (rm_pciG l Z a0 hw hO [] p1 p2 wsf h0 O0 r_wsf hp1 hp2) 0 0 0 (by show _ ≤ 0; omega) (by show _ ≤ 0; omega) e1 (g := (mkF m 5 #[iv p1, iv p2] [wsf, (.int p2), (.int p1)])) rfl (by rw [hml]; rfl) [(.int p1), (.int p2), wsf] [] (lenOf own_pd_2 rfl) rfl rfl (hb hby d28_5)
  obtain ⟨rfl, Nc4, Kc3⟩ := hQ2
  refine own_go st2 ?_
  clear st2 X1 e1
  replace N0 := Fr.app N0 Nc4
  clear Nc4
  refine own_go (fun _ k => XS.pop X2.here hx rfl (hb hby d28_8) rfl rfl k) ?_
  show own_Go p e below s _ _ _ (T2.setTop (mkF m 9 #[iv p1, iv p2] []))
  refine own_retV X2 hx hlk Kc3 hret (hb hby d28_9) (by show _ ≤ 0; omega) (by show _ ≤ 0; omega) ?_
  exact ⟨rfl, N0, rfl⟩
theorem d27_0 : decode jdk_43_method_2_code 0 = .ok (.iload_n 1, 1) := by decide +kernel
theorem d27_1 : decode jdk_43_method_2_code 1 = .ok (.aload_n 0, 1) := by decide +kernel
theorem d27_2 : decode jdk_43_method_2_code 2 = .ok (.arraylength, 1) := by decide +kernel
theorem d27_3 : decode jdk_43_method_2_code 3 = .ok (.invokestatic 9, 3) := by decide +kernel
theorem d27_6 : decode jdk_43_method_2_code 6 = .ok (.aload_n 0, 1) := by decide +kernel
theorem d27_7 : decode jdk_43_method_2_code 7 = .ok (.iload_n 1, 1) := by decide +kernel
theorem d27_8 : decode jdk_43_method_2_code 8 = .ok (.baload, 1) := by decide +kernel
theorem d27_9 : decode jdk_43_method_2_code 9 = .ok (.sipush 255, 3) := by decide +kernel
theorem d27_12 : decode jdk_43_method_2_code 12 = .ok (.iand, 1) := by decide +kernel
theorem d27_13 : decode jdk_43_method_2_code 13 = .ok (.i2c, 1) := by decide +kernel
theorem d27_14 : decode jdk_43_method_2_code 14 = .ok (.ireturn, 1) := by decide +kernel
def Q_lch_0 (Z : State) (zc : Int32) (wsf : Value) (t : Addr) (kt : ClassId) (nz : Int32) (tl : List Value) (x0 : Int32) (h0 : Heap) (v : Option Value) (h : Heap) (L : List Loc) : Prop := (v = some (.int (x0 &&& (255 : Int32))) ∧ Fr Z.heap.size L ∧ h = h0)
theorem ef_lch_0 (m : MethodId) (x0 : Addr) : entryFrame m #[(.ref x0), (.int (0 : Int32))] 2 = mkF m 0 #[rv x0, iv (0 : Int32)] [] := by first | (simp [entryFrame, mkF, argsToLocals, Value.category]; done) | rfl
set_option maxRecDepth 65536 in
set_option maxHeartbeats 40000000 in
theorem rm_lch_0 (l : Launch) (Z : State) (a0 : Array Value) (hw : own_W Z a0) {zc : Int32} {wsf : Value} (hO : own_Olds Z zc wsf) (ws : List Jvm.Cond) (t : Addr) (kt : ClassId) (nz : Int32) (tl : List Value) (x0 : Int32) (h0 : Heap) (O0 : Ext Z.heap h0) (fp0 : Arv Z h0 t kt .byte nz ((.int x0) :: tl) (.int (0 : Int32))) (hin : (0 : Int32) < nz) :
    own_MF l Z h0 own_y8 jdk_43_method_2_code 2 (some .char) ({ frames := 2, cells := 0, slots := 0, locals := 27 } : Room) #[(.ref t), (.int (0 : Int32))] (Q_lch_0 Z zc wsf t kt nz tl x0 h0) ws := by
  refine own_met (Q := (Q_lch_0 Z zc wsf t kt nz tl x0 h0)) _ _ (plainFor_of_name own_pn_3) ?_
  intro p e s m below meth c T X0 hx hby hml hret hlk hZ hown hnm e0
  replace hown : s.vm.findClass "java/lang/StringLatin1" = some m.cls := hown
  replace hnm : meth.name = "charAt" := hnm
  have hml : c.maxLocals = 2 := hml
  obtain ⟨oCS, oCz, oSF, r_wsf⟩ := id hO
  have N0 := Fr.nil Z.heap.size
  have K0 := Keep.refl h0 []
  refine own_go (fun _ k => castTop (ef_lch_0 m t) k) ?_
  show own_Go p e below s _ _ _ (T.setTop (mkF m 0 #[rv t, iv (0 : Int32)] []))
  refine own_go (fun _ k => XS.iloadN X0.here hx rfl (hb hby d27_0) rfl (XS.aloadN X0.here hx rfl (hb hby d27_1) rfl rfl k)) ?_
  show own_Go p e below s _ _ _ (T.setTop (mkF m 2 #[rv t, iv (0 : Int32)] [(.ref t), (.int (0 : Int32))]))
  obtain ⟨cl1, Ar1, -, S1, M1, -, -⟩ := id (fp0.keep K0 nin0)
  refine own_go (X0.arraylength hx (by rw [e0]; exact Ar1.1) (State.isArrayOf_alike hZ.alike Ar1.2.1) (g := (mkF m 2 #[rv t, iv (0 : Int32)] [(.ref t), (.int (0 : Int32))])) rfl rfl (hb hby d27_2)) ?_
  rw [len_of S1 M1]
  obtain ⟨v2, T2, L2, X2, hQ2, st2⟩ := own_callS (y := own_y7) X0 hx hZ hown (ow126 hw) (ow127 hw) (ow7 hw) (ow128 hw) (rm_sci l Z a0 hw hO [] (0 : Int32) nz h0 O0 (by decide : ¬ ((0 : Int32) < (0 : Int32))) hin) 0 0 0 (by show _ ≤ 0; omega) (by show _ ≤ 0; omega) e0 (g := (mkF m 3 #[rv t, iv (0 : Int32)] [(.int nz), (.int (0 : Int32))])) rfl (by rw [hml]; rfl) [(.int (0 : Int32)), (.int nz)] [] (lenOf own_pd_3 rfl) rfl rfl (hb hby d27_3)
  obtain ⟨rfl, Nc4, Kc3⟩ := hQ2
  refine own_go st2 ?_
  clear st2 X0 e0
  replace N0 := Fr.app N0 Nc4
  clear Nc4
  refine own_go (fun _ k => XS.aloadN X2.here hx rfl (hb hby d27_6) rfl rfl (XS.iloadN X2.here hx rfl (hb hby d27_7) rfl k)) ?_
  obtain ⟨cl5, Ar5, -, S5, -, P5, -⟩ := id (fp0.keep K0 nin0)
  have hin5 : ¬ ((0 : Int32) < 0 ∨ cl5.slots.size ≤ ((0 : Int32)).toNatClampNeg) := inb_of S5 ⟨by decide, hin⟩
  refine own_go (X2.baloadBytes hx (j := (0 : Int32)) (v := (.int x0)) (by rw [Kc3]; exact Ar5.1) (State.isArrayOf_alike hZ.alike Ar5.2.1) Ar5.2.2 hin5 (P5.at hin5 rfl) (g := (mkF m 8 #[rv t, iv (0 : Int32)] [(.int (0 : Int32)), (.ref t)])) rfl rfl (hb hby d27_8)) ?_
  refine own_go (fun _ k => XS.sipush X2.here hx rfl (hb hby d27_9) (XS.iand X2.here hx rfl (hb hby d27_12) rfl (XS.i2c X2.here hx rfl (hb hby d27_13) rfl k))) ?_
  show own_Go p e below s _ _ _ (T2.setTop (mkF m 14 #[rv t, iv (0 : Int32)] [(.int ((x0 &&& (255 : Int32)).toUInt32.toUInt16.toUInt32.toInt32))]))
  rw [i2c_mask x0]
  show own_Go p e below s _ _ _ (T2.setTop (mkF m 14 #[rv t, iv (0 : Int32)] [(.int (x0 &&& (255 : Int32)))]))
  refine own_retN X2 hx hlk Kc3 (t := .char) hret (by simp) (hb hby d27_14) (by show _ ≤ 0; omega) (by show _ ≤ 0; omega) ?_
  exact ⟨(congrArg (fun z => some (Value.int z)) (own_narM x0)), N0, rfl⟩
theorem d26_0 : decode jdk_42_method_56_code 0 = .ok (.aload_n 0, 1) := by decide +kernel
theorem d26_1 : decode jdk_42_method_56_code 1 = .ok (.invokevirtual 492, 3) := by decide +kernel
theorem d26_4 : decode jdk_42_method_56_code 4 = .ok (.ifCond .eq 12, 3) := by decide +kernel
theorem d26_7 : decode jdk_42_method_56_code 7 = .ok (.aload_n 0, 1) := by decide +kernel
theorem d26_8 : decode jdk_42_method_56_code 8 = .ok (.getfield 9, 3) := by decide +kernel
theorem d26_11 : decode jdk_42_method_56_code 11 = .ok (.iload_n 1, 1) := by decide +kernel
theorem d26_12 : decode jdk_42_method_56_code 12 = .ok (.invokestatic 495, 3) := by decide +kernel
theorem d26_15 : decode jdk_42_method_56_code 15 = .ok (.ireturn, 1) := by decide +kernel
def Q_ch_0 (Z : State) (zc : Int32) (wsf : Value) (a1 : Addr) (t : Addr) (kt : ClassId) (nz : Int32) (tl : List Value) (x0 : Int32) (h0 : Heap) (v : Option Value) (h : Heap) (L : List Loc) : Prop := (v = some (.int (x0 &&& (255 : Int32))) ∧ Fr Z.heap.size L ∧ h = h0)
theorem ef_ch_0 (m : MethodId) (x0 : Addr) : entryFrame m #[(.ref x0), (.int (0 : Int32))] 2 = mkF m 0 #[rv x0, iv (0 : Int32)] [] := by first | (simp [entryFrame, mkF, argsToLocals, Value.category]; done) | rfl
set_option maxRecDepth 65536 in
set_option maxHeartbeats 40000000 in
theorem rm_ch_0 (l : Launch) (Z : State) (a0 : Array Value) (hw : own_W Z a0) {zc : Int32} {wsf : Value} (hO : own_Olds Z zc wsf) (ws : List Jvm.Cond) (a1 : Addr) (t : Addr) (kt : ClassId) (nz : Int32) (tl : List Value) (x0 : Int32) (h0 : Heap) (O0 : Ext Z.heap h0) (fp0 : Exa Z h0 a1 "java/lang/String") (fp1 : Fld Z h0 a1 "java/lang/String" "value" "[B" (.ref t)) (fp2 : Fld Z h0 a1 "java/lang/String" "coder" "B" (.int (0 : Int32))) (fp3 : Arv Z h0 t kt .byte nz ((.int x0) :: tl) (.int (0 : Int32))) (hin : (0 : Int32) < nz) :
    own_MF l Z h0 own_y9 jdk_42_method_56_code 2 (some .char) ({ frames := 3, cells := 0, slots := 0, locals := 40 } : Room) #[(.ref a1), (.int (0 : Int32))] (Q_ch_0 Z zc wsf a1 t kt nz tl x0 h0) ws := by
  refine own_met (Q := (Q_ch_0 Z zc wsf a1 t kt nz tl x0 h0)) _ _ (plainFor_of_name own_pn_0) ?_
  intro p e s m below meth c T X0 hx hby hml hret hlk hZ hown hnm e0
  replace hown : s.vm.findClass "java/lang/String" = some m.cls := hown
  replace hnm : meth.name = "charAt" := hnm
  have hml : c.maxLocals = 2 := hml
  obtain ⟨oCS, oCz, oSF, r_wsf⟩ := id hO
  have N0 := Fr.nil Z.heap.size
  have K0 := Keep.refl h0 []
  refine own_go (fun _ k => castTop (ef_ch_0 m a1) k) ?_
  show own_Go p e below s _ _ _ (T.setTop (mkF m 0 #[rv a1, iv (0 : Int32)] []))
  refine own_go (fun _ k => XS.aloadN X0.here hx rfl (hb hby d26_0) rfl rfl k) ?_
  obtain ⟨v1, T1, L1, X1, hQ1, st1⟩ := own_callV (y := own_y5) (z := own_y5) X0 hx hZ hown (ow92 hw) (ow93 hw) (notFace_of_selects (args := #[]) (mvT hZ (ow95 hw))) (ow95 hw) (ow94 hw) (ow7 hw) (ow96 hw) (rm_isLat l Z a0 hw hO [] a1 h0 O0 (fp2.keep K0 nin0)) 0 0 0 (by show _ ≤ 0; omega) (by show _ ≤ 0; omega) e0 (fp0.keep K0) (g := (mkF m 1 #[rv a1, iv (0 : Int32)] [(.ref a1)])) rfl (by rw [hml]; rfl) [] [] (lenOf own_pd_4 rfl) rfl rfl (hb hby d26_1)
  obtain ⟨rfl, Nc3, Kc2⟩ := hQ1
  refine own_go st1 ?_
  clear st1 X0 e0
  replace N0 := Fr.app N0 Nc3
  clear Nc3
  refine own_go (fun _ k => XS.ifNo X1.here hx rfl (hb hby d26_4) rfl ((if0 _ _).trans (feq (by decide : ¬ ((1 : Int32) = (0 : Int32)))).1) (XS.aloadN X1.here hx rfl (hb hby d26_7) rfl rfl k)) ?_
  obtain ⟨T4, X4, e4, st4⟩ := getF X1 hx hZ hown (host := "") (Or.inl (ow33 hw)) Via.refl Kc2 (fp1.keep K0 nin0) (g := (mkF m 8 #[rv a1, iv (0 : Int32)] [(.ref a1)])) rfl rfl (hb hby d26_8)
  refine own_go st4 ?_
  clear st4 X1 Kc2
  refine own_go (fun _ k => XS.iloadN X4.here hx rfl (hb hby d26_11) rfl k) ?_
  obtain ⟨v5, T5, L5, X5, hQ5, st5⟩ := own_callS (y := own_y8) X4 hx hZ hown (ow123 hw) (ow124 hw) (ow99 hw) (ow125 hw) (rm_lch_0 l Z a0 hw hO [] t kt nz (tl : List Value) x0 h0 O0 (fp3.keep K0 nin0) hin) 0 0 0 (by show _ ≤ 0; omega) (by show _ ≤ 0; omega) e4 (g := (mkF m 12 #[rv a1, iv (0 : Int32)] [(.int (0 : Int32)), (.ref t)])) rfl (by rw [hml]; rfl) [(.ref t), (.int (0 : Int32))] [] (lenOf own_pd_5 rfl) rfl rfl (hb hby d26_12)
  obtain ⟨rfl, Nc7, Kc6⟩ := hQ5
  refine own_go st5 ?_
  clear st5 X4 e4
  replace N0 := Fr.app N0 Nc7
  clear Nc7
  show own_Go p e below s _ _ _ (T5.setTop (mkF m 15 #[rv a1, iv (0 : Int32)] [(.int (x0 &&& (255 : Int32)))]))
  refine own_retN X5 hx hlk Kc6 (t := .char) hret (by simp) (hb hby d26_15) (by show _ ≤ 0; omega) (by show _ ≤ 0; omega) ?_
  exact ⟨(congrArg (fun z => some (Value.int z)) (own_narM x0)), N0, rfl⟩
def Q_lch_1 (Z : State) (zc : Int32) (wsf : Value) (t : Addr) (kt : ClassId) (nz : Int32) (tl : List Value) (x0 : Int32) (x1 : Int32) (h0 : Heap) (v : Option Value) (h : Heap) (L : List Loc) : Prop := (v = some (.int (x1 &&& (255 : Int32))) ∧ Fr Z.heap.size L ∧ h = h0)
theorem ef_lch_1 (m : MethodId) (x0 : Addr) : entryFrame m #[(.ref x0), (.int (1 : Int32))] 2 = mkF m 0 #[rv x0, iv (1 : Int32)] [] := by first | (simp [entryFrame, mkF, argsToLocals, Value.category]; done) | rfl
set_option maxRecDepth 65536 in
set_option maxHeartbeats 40000000 in
theorem rm_lch_1 (l : Launch) (Z : State) (a0 : Array Value) (hw : own_W Z a0) {zc : Int32} {wsf : Value} (hO : own_Olds Z zc wsf) (ws : List Jvm.Cond) (t : Addr) (kt : ClassId) (nz : Int32) (tl : List Value) (x0 : Int32) (x1 : Int32) (h0 : Heap) (O0 : Ext Z.heap h0) (fp0 : Arv Z h0 t kt .byte nz ((.int x0) :: (.int x1) :: tl) (.int (0 : Int32))) (hin : (1 : Int32) < nz) :
    own_MF l Z h0 own_y8 jdk_43_method_2_code 2 (some .char) ({ frames := 2, cells := 0, slots := 0, locals := 27 } : Room) #[(.ref t), (.int (1 : Int32))] (Q_lch_1 Z zc wsf t kt nz tl x0 x1 h0) ws := by
  refine own_met (Q := (Q_lch_1 Z zc wsf t kt nz tl x0 x1 h0)) _ _ (plainFor_of_name own_pn_3) ?_
  intro p e s m below meth c T X0 hx hby hml hret hlk hZ hown hnm e0
  replace hown : s.vm.findClass "java/lang/StringLatin1" = some m.cls := hown
  replace hnm : meth.name = "charAt" := hnm
  have hml : c.maxLocals = 2 := hml
  obtain ⟨oCS, oCz, oSF, r_wsf⟩ := id hO
  have N0 := Fr.nil Z.heap.size
  have K0 := Keep.refl h0 []
  refine own_go (fun _ k => castTop (ef_lch_1 m t) k) ?_
  show own_Go p e below s _ _ _ (T.setTop (mkF m 0 #[rv t, iv (1 : Int32)] []))
  refine own_go (fun _ k => XS.iloadN X0.here hx rfl (hb hby d27_0) rfl (XS.aloadN X0.here hx rfl (hb hby d27_1) rfl rfl k)) ?_
  show own_Go p e below s _ _ _ (T.setTop (mkF m 2 #[rv t, iv (1 : Int32)] [(.ref t), (.int (1 : Int32))]))
  obtain ⟨cl1, Ar1, -, S1, M1, -, -⟩ := id (fp0.keep K0 nin0)
  refine own_go (X0.arraylength hx (by rw [e0]; exact Ar1.1) (State.isArrayOf_alike hZ.alike Ar1.2.1) (g := (mkF m 2 #[rv t, iv (1 : Int32)] [(.ref t), (.int (1 : Int32))])) rfl rfl (hb hby d27_2)) ?_
  rw [len_of S1 M1]
  obtain ⟨v2, T2, L2, X2, hQ2, st2⟩ := own_callS (y := own_y7) X0 hx hZ hown (ow126 hw) (ow127 hw) (ow7 hw) (ow128 hw) (rm_sci l Z a0 hw hO [] (1 : Int32) nz h0 O0 (by decide : ¬ ((1 : Int32) < (0 : Int32))) hin) 0 0 0 (by show _ ≤ 0; omega) (by show _ ≤ 0; omega) e0 (g := (mkF m 3 #[rv t, iv (1 : Int32)] [(.int nz), (.int (1 : Int32))])) rfl (by rw [hml]; rfl) [(.int (1 : Int32)), (.int nz)] [] (lenOf own_pd_3 rfl) rfl rfl (hb hby d27_3)
  obtain ⟨rfl, Nc4, Kc3⟩ := hQ2
  refine own_go st2 ?_
  clear st2 X0 e0
  replace N0 := Fr.app N0 Nc4
  clear Nc4
  refine own_go (fun _ k => XS.aloadN X2.here hx rfl (hb hby d27_6) rfl rfl (XS.iloadN X2.here hx rfl (hb hby d27_7) rfl k)) ?_
  obtain ⟨cl5, Ar5, -, S5, -, P5, -⟩ := id (fp0.keep K0 nin0)
  have hin5 : ¬ ((1 : Int32) < 0 ∨ cl5.slots.size ≤ ((1 : Int32)).toNatClampNeg) := inb_of S5 ⟨by decide, hin⟩
  refine own_go (X2.baloadBytes hx (j := (1 : Int32)) (v := (.int x1)) (by rw [Kc3]; exact Ar5.1) (State.isArrayOf_alike hZ.alike Ar5.2.1) Ar5.2.2 hin5 (P5.at hin5 rfl) (g := (mkF m 8 #[rv t, iv (1 : Int32)] [(.int (1 : Int32)), (.ref t)])) rfl rfl (hb hby d27_8)) ?_
  refine own_go (fun _ k => XS.sipush X2.here hx rfl (hb hby d27_9) (XS.iand X2.here hx rfl (hb hby d27_12) rfl (XS.i2c X2.here hx rfl (hb hby d27_13) rfl k))) ?_
  show own_Go p e below s _ _ _ (T2.setTop (mkF m 14 #[rv t, iv (1 : Int32)] [(.int ((x1 &&& (255 : Int32)).toUInt32.toUInt16.toUInt32.toInt32))]))
  rw [i2c_mask x1]
  show own_Go p e below s _ _ _ (T2.setTop (mkF m 14 #[rv t, iv (1 : Int32)] [(.int (x1 &&& (255 : Int32)))]))
  refine own_retN X2 hx hlk Kc3 (t := .char) hret (by simp) (hb hby d27_14) (by show _ ≤ 0; omega) (by show _ ≤ 0; omega) ?_
  exact ⟨(congrArg (fun z => some (Value.int z)) (own_narM x1)), N0, rfl⟩
def Q_ch_1 (Z : State) (zc : Int32) (wsf : Value) (a1 : Addr) (t : Addr) (kt : ClassId) (nz : Int32) (tl : List Value) (x0 : Int32) (x1 : Int32) (h0 : Heap) (v : Option Value) (h : Heap) (L : List Loc) : Prop := (v = some (.int (x1 &&& (255 : Int32))) ∧ Fr Z.heap.size L ∧ h = h0)
theorem ef_ch_1 (m : MethodId) (x0 : Addr) : entryFrame m #[(.ref x0), (.int (1 : Int32))] 2 = mkF m 0 #[rv x0, iv (1 : Int32)] [] := by first | (simp [entryFrame, mkF, argsToLocals, Value.category]; done) | rfl
set_option maxRecDepth 65536 in
set_option maxHeartbeats 40000000 in
theorem rm_ch_1 (l : Launch) (Z : State) (a0 : Array Value) (hw : own_W Z a0) {zc : Int32} {wsf : Value} (hO : own_Olds Z zc wsf) (ws : List Jvm.Cond) (a1 : Addr) (t : Addr) (kt : ClassId) (nz : Int32) (tl : List Value) (x0 : Int32) (x1 : Int32) (h0 : Heap) (O0 : Ext Z.heap h0) (fp0 : Exa Z h0 a1 "java/lang/String") (fp1 : Fld Z h0 a1 "java/lang/String" "value" "[B" (.ref t)) (fp2 : Fld Z h0 a1 "java/lang/String" "coder" "B" (.int (0 : Int32))) (fp3 : Arv Z h0 t kt .byte nz ((.int x0) :: (.int x1) :: tl) (.int (0 : Int32))) (hin : (1 : Int32) < nz) :
    own_MF l Z h0 own_y9 jdk_42_method_56_code 2 (some .char) ({ frames := 3, cells := 0, slots := 0, locals := 40 } : Room) #[(.ref a1), (.int (1 : Int32))] (Q_ch_1 Z zc wsf a1 t kt nz tl x0 x1 h0) ws := by
  refine own_met (Q := (Q_ch_1 Z zc wsf a1 t kt nz tl x0 x1 h0)) _ _ (plainFor_of_name own_pn_0) ?_
  intro p e s m below meth c T X0 hx hby hml hret hlk hZ hown hnm e0
  replace hown : s.vm.findClass "java/lang/String" = some m.cls := hown
  replace hnm : meth.name = "charAt" := hnm
  have hml : c.maxLocals = 2 := hml
  obtain ⟨oCS, oCz, oSF, r_wsf⟩ := id hO
  have N0 := Fr.nil Z.heap.size
  have K0 := Keep.refl h0 []
  refine own_go (fun _ k => castTop (ef_ch_1 m a1) k) ?_
  show own_Go p e below s _ _ _ (T.setTop (mkF m 0 #[rv a1, iv (1 : Int32)] []))
  refine own_go (fun _ k => XS.aloadN X0.here hx rfl (hb hby d26_0) rfl rfl k) ?_
  obtain ⟨v1, T1, L1, X1, hQ1, st1⟩ := own_callV (y := own_y5) (z := own_y5) X0 hx hZ hown (ow92 hw) (ow93 hw) (notFace_of_selects (args := #[]) (mvT hZ (ow95 hw))) (ow95 hw) (ow94 hw) (ow7 hw) (ow96 hw) (rm_isLat l Z a0 hw hO [] a1 h0 O0 (fp2.keep K0 nin0)) 0 0 0 (by show _ ≤ 0; omega) (by show _ ≤ 0; omega) e0 (fp0.keep K0) (g := (mkF m 1 #[rv a1, iv (1 : Int32)] [(.ref a1)])) rfl (by rw [hml]; rfl) [] [] (lenOf own_pd_4 rfl) rfl rfl (hb hby d26_1)
  obtain ⟨rfl, Nc3, Kc2⟩ := hQ1
  refine own_go st1 ?_
  clear st1 X0 e0
  replace N0 := Fr.app N0 Nc3
  clear Nc3
  refine own_go (fun _ k => XS.ifNo X1.here hx rfl (hb hby d26_4) rfl ((if0 _ _).trans (feq (by decide : ¬ ((1 : Int32) = (0 : Int32)))).1) (XS.aloadN X1.here hx rfl (hb hby d26_7) rfl rfl k)) ?_
  obtain ⟨T4, X4, e4, st4⟩ := getF X1 hx hZ hown (host := "") (Or.inl (ow33 hw)) Via.refl Kc2 (fp1.keep K0 nin0) (g := (mkF m 8 #[rv a1, iv (1 : Int32)] [(.ref a1)])) rfl rfl (hb hby d26_8)
  refine own_go st4 ?_
  clear st4 X1 Kc2
  refine own_go (fun _ k => XS.iloadN X4.here hx rfl (hb hby d26_11) rfl k) ?_
  obtain ⟨v5, T5, L5, X5, hQ5, st5⟩ := own_callS (y := own_y8) X4 hx hZ hown (ow123 hw) (ow124 hw) (ow99 hw) (ow125 hw) (rm_lch_1 l Z a0 hw hO [] t kt nz (tl : List Value) x0 x1 h0 O0 (fp3.keep K0 nin0) hin) 0 0 0 (by show _ ≤ 0; omega) (by show _ ≤ 0; omega) e4 (g := (mkF m 12 #[rv a1, iv (1 : Int32)] [(.int (1 : Int32)), (.ref t)])) rfl (by rw [hml]; rfl) [(.ref t), (.int (1 : Int32))] [] (lenOf own_pd_5 rfl) rfl rfl (hb hby d26_12)
  obtain ⟨rfl, Nc7, Kc6⟩ := hQ5
  refine own_go st5 ?_
  clear st5 X4 e4
  replace N0 := Fr.app N0 Nc7
  clear Nc7
  show own_Go p e below s _ _ _ (T5.setTop (mkF m 15 #[rv a1, iv (1 : Int32)] [(.int (x1 &&& (255 : Int32)))]))
  refine own_retN X5 hx hlk Kc6 (t := .char) hret (by simp) (hb hby d26_15) (by show _ ≤ 0; omega) (by show _ ≤ 0; omega) ?_
  exact ⟨(congrArg (fun z => some (Value.int z)) (own_narM x1)), N0, rfl⟩
def Q_lch_2 (Z : State) (zc : Int32) (wsf : Value) (t : Addr) (kt : ClassId) (nz : Int32) (tl : List Value) (x0 : Int32) (x1 : Int32) (x2 : Int32) (h0 : Heap) (v : Option Value) (h : Heap) (L : List Loc) : Prop := (v = some (.int (x2 &&& (255 : Int32))) ∧ Fr Z.heap.size L ∧ h = h0)
theorem ef_lch_2 (m : MethodId) (x0 : Addr) : entryFrame m #[(.ref x0), (.int (2 : Int32))] 2 = mkF m 0 #[rv x0, iv (2 : Int32)] [] := by first | (simp [entryFrame, mkF, argsToLocals, Value.category]; done) | rfl
set_option maxRecDepth 65536 in
set_option maxHeartbeats 40000000 in
theorem rm_lch_2 (l : Launch) (Z : State) (a0 : Array Value) (hw : own_W Z a0) {zc : Int32} {wsf : Value} (hO : own_Olds Z zc wsf) (ws : List Jvm.Cond) (t : Addr) (kt : ClassId) (nz : Int32) (tl : List Value) (x0 : Int32) (x1 : Int32) (x2 : Int32) (h0 : Heap) (O0 : Ext Z.heap h0) (fp0 : Arv Z h0 t kt .byte nz ((.int x0) :: (.int x1) :: (.int x2) :: tl) (.int (0 : Int32))) (hin : (2 : Int32) < nz) :
    own_MF l Z h0 own_y8 jdk_43_method_2_code 2 (some .char) ({ frames := 2, cells := 0, slots := 0, locals := 27 } : Room) #[(.ref t), (.int (2 : Int32))] (Q_lch_2 Z zc wsf t kt nz tl x0 x1 x2 h0) ws := by
  refine own_met (Q := (Q_lch_2 Z zc wsf t kt nz tl x0 x1 x2 h0)) _ _ (plainFor_of_name own_pn_3) ?_
  intro p e s m below meth c T X0 hx hby hml hret hlk hZ hown hnm e0
  replace hown : s.vm.findClass "java/lang/StringLatin1" = some m.cls := hown
  replace hnm : meth.name = "charAt" := hnm
  have hml : c.maxLocals = 2 := hml
  obtain ⟨oCS, oCz, oSF, r_wsf⟩ := id hO
  have N0 := Fr.nil Z.heap.size
  have K0 := Keep.refl h0 []
  refine own_go (fun _ k => castTop (ef_lch_2 m t) k) ?_
  show own_Go p e below s _ _ _ (T.setTop (mkF m 0 #[rv t, iv (2 : Int32)] []))
  refine own_go (fun _ k => XS.iloadN X0.here hx rfl (hb hby d27_0) rfl (XS.aloadN X0.here hx rfl (hb hby d27_1) rfl rfl k)) ?_
  show own_Go p e below s _ _ _ (T.setTop (mkF m 2 #[rv t, iv (2 : Int32)] [(.ref t), (.int (2 : Int32))]))
  obtain ⟨cl1, Ar1, -, S1, M1, -, -⟩ := id (fp0.keep K0 nin0)
  refine own_go (X0.arraylength hx (by rw [e0]; exact Ar1.1) (State.isArrayOf_alike hZ.alike Ar1.2.1) (g := (mkF m 2 #[rv t, iv (2 : Int32)] [(.ref t), (.int (2 : Int32))])) rfl rfl (hb hby d27_2)) ?_
  rw [len_of S1 M1]
  obtain ⟨v2, T2, L2, X2, hQ2, st2⟩ := own_callS (y := own_y7) X0 hx hZ hown (ow126 hw) (ow127 hw) (ow7 hw) (ow128 hw) (rm_sci l Z a0 hw hO [] (2 : Int32) nz h0 O0 (by decide : ¬ ((2 : Int32) < (0 : Int32))) hin) 0 0 0 (by show _ ≤ 0; omega) (by show _ ≤ 0; omega) e0 (g := (mkF m 3 #[rv t, iv (2 : Int32)] [(.int nz), (.int (2 : Int32))])) rfl (by rw [hml]; rfl) [(.int (2 : Int32)), (.int nz)] [] (lenOf own_pd_3 rfl) rfl rfl (hb hby d27_3)
  obtain ⟨rfl, Nc4, Kc3⟩ := hQ2
  refine own_go st2 ?_
  clear st2 X0 e0
  replace N0 := Fr.app N0 Nc4
  clear Nc4
  refine own_go (fun _ k => XS.aloadN X2.here hx rfl (hb hby d27_6) rfl rfl (XS.iloadN X2.here hx rfl (hb hby d27_7) rfl k)) ?_
  obtain ⟨cl5, Ar5, -, S5, -, P5, -⟩ := id (fp0.keep K0 nin0)
  have hin5 : ¬ ((2 : Int32) < 0 ∨ cl5.slots.size ≤ ((2 : Int32)).toNatClampNeg) := inb_of S5 ⟨by decide, hin⟩
  refine own_go (X2.baloadBytes hx (j := (2 : Int32)) (v := (.int x2)) (by rw [Kc3]; exact Ar5.1) (State.isArrayOf_alike hZ.alike Ar5.2.1) Ar5.2.2 hin5 (P5.at hin5 rfl) (g := (mkF m 8 #[rv t, iv (2 : Int32)] [(.int (2 : Int32)), (.ref t)])) rfl rfl (hb hby d27_8)) ?_
  refine own_go (fun _ k => XS.sipush X2.here hx rfl (hb hby d27_9) (XS.iand X2.here hx rfl (hb hby d27_12) rfl (XS.i2c X2.here hx rfl (hb hby d27_13) rfl k))) ?_
  show own_Go p e below s _ _ _ (T2.setTop (mkF m 14 #[rv t, iv (2 : Int32)] [(.int ((x2 &&& (255 : Int32)).toUInt32.toUInt16.toUInt32.toInt32))]))
  rw [i2c_mask x2]
  show own_Go p e below s _ _ _ (T2.setTop (mkF m 14 #[rv t, iv (2 : Int32)] [(.int (x2 &&& (255 : Int32)))]))
  refine own_retN X2 hx hlk Kc3 (t := .char) hret (by simp) (hb hby d27_14) (by show _ ≤ 0; omega) (by show _ ≤ 0; omega) ?_
  exact ⟨(congrArg (fun z => some (Value.int z)) (own_narM x2)), N0, rfl⟩
def Q_ch_2 (Z : State) (zc : Int32) (wsf : Value) (a1 : Addr) (t : Addr) (kt : ClassId) (nz : Int32) (tl : List Value) (x0 : Int32) (x1 : Int32) (x2 : Int32) (h0 : Heap) (v : Option Value) (h : Heap) (L : List Loc) : Prop := (v = some (.int (x2 &&& (255 : Int32))) ∧ Fr Z.heap.size L ∧ h = h0)
theorem ef_ch_2 (m : MethodId) (x0 : Addr) : entryFrame m #[(.ref x0), (.int (2 : Int32))] 2 = mkF m 0 #[rv x0, iv (2 : Int32)] [] := by first | (simp [entryFrame, mkF, argsToLocals, Value.category]; done) | rfl
set_option maxRecDepth 65536 in
set_option maxHeartbeats 40000000 in
theorem rm_ch_2 (l : Launch) (Z : State) (a0 : Array Value) (hw : own_W Z a0) {zc : Int32} {wsf : Value} (hO : own_Olds Z zc wsf) (ws : List Jvm.Cond) (a1 : Addr) (t : Addr) (kt : ClassId) (nz : Int32) (tl : List Value) (x0 : Int32) (x1 : Int32) (x2 : Int32) (h0 : Heap) (O0 : Ext Z.heap h0) (fp0 : Exa Z h0 a1 "java/lang/String") (fp1 : Fld Z h0 a1 "java/lang/String" "value" "[B" (.ref t)) (fp2 : Fld Z h0 a1 "java/lang/String" "coder" "B" (.int (0 : Int32))) (fp3 : Arv Z h0 t kt .byte nz ((.int x0) :: (.int x1) :: (.int x2) :: tl) (.int (0 : Int32))) (hin : (2 : Int32) < nz) :
    own_MF l Z h0 own_y9 jdk_42_method_56_code 2 (some .char) ({ frames := 3, cells := 0, slots := 0, locals := 40 } : Room) #[(.ref a1), (.int (2 : Int32))] (Q_ch_2 Z zc wsf a1 t kt nz tl x0 x1 x2 h0) ws := by
  refine own_met (Q := (Q_ch_2 Z zc wsf a1 t kt nz tl x0 x1 x2 h0)) _ _ (plainFor_of_name own_pn_0) ?_
  intro p e s m below meth c T X0 hx hby hml hret hlk hZ hown hnm e0
  replace hown : s.vm.findClass "java/lang/String" = some m.cls := hown
  replace hnm : meth.name = "charAt" := hnm
  have hml : c.maxLocals = 2 := hml
  obtain ⟨oCS, oCz, oSF, r_wsf⟩ := id hO
  have N0 := Fr.nil Z.heap.size
  have K0 := Keep.refl h0 []
  refine own_go (fun _ k => castTop (ef_ch_2 m a1) k) ?_
  show own_Go p e below s _ _ _ (T.setTop (mkF m 0 #[rv a1, iv (2 : Int32)] []))
  refine own_go (fun _ k => XS.aloadN X0.here hx rfl (hb hby d26_0) rfl rfl k) ?_
  obtain ⟨v1, T1, L1, X1, hQ1, st1⟩ := own_callV (y := own_y5) (z := own_y5) X0 hx hZ hown (ow92 hw) (ow93 hw) (notFace_of_selects (args := #[]) (mvT hZ (ow95 hw))) (ow95 hw) (ow94 hw) (ow7 hw) (ow96 hw) (rm_isLat l Z a0 hw hO [] a1 h0 O0 (fp2.keep K0 nin0)) 0 0 0 (by show _ ≤ 0; omega) (by show _ ≤ 0; omega) e0 (fp0.keep K0) (g := (mkF m 1 #[rv a1, iv (2 : Int32)] [(.ref a1)])) rfl (by rw [hml]; rfl) [] [] (lenOf own_pd_4 rfl) rfl rfl (hb hby d26_1)
  obtain ⟨rfl, Nc3, Kc2⟩ := hQ1
  refine own_go st1 ?_
  clear st1 X0 e0
  replace N0 := Fr.app N0 Nc3
  clear Nc3
  refine own_go (fun _ k => XS.ifNo X1.here hx rfl (hb hby d26_4) rfl ((if0 _ _).trans (feq (by decide : ¬ ((1 : Int32) = (0 : Int32)))).1) (XS.aloadN X1.here hx rfl (hb hby d26_7) rfl rfl k)) ?_
  obtain ⟨T4, X4, e4, st4⟩ := getF X1 hx hZ hown (host := "") (Or.inl (ow33 hw)) Via.refl Kc2 (fp1.keep K0 nin0) (g := (mkF m 8 #[rv a1, iv (2 : Int32)] [(.ref a1)])) rfl rfl (hb hby d26_8)
  refine own_go st4 ?_
  clear st4 X1 Kc2
  refine own_go (fun _ k => XS.iloadN X4.here hx rfl (hb hby d26_11) rfl k) ?_
  obtain ⟨v5, T5, L5, X5, hQ5, st5⟩ := own_callS (y := own_y8) X4 hx hZ hown (ow123 hw) (ow124 hw) (ow99 hw) (ow125 hw) (rm_lch_2 l Z a0 hw hO [] t kt nz (tl : List Value) x0 x1 x2 h0 O0 (fp3.keep K0 nin0) hin) 0 0 0 (by show _ ≤ 0; omega) (by show _ ≤ 0; omega) e4 (g := (mkF m 12 #[rv a1, iv (2 : Int32)] [(.int (2 : Int32)), (.ref t)])) rfl (by rw [hml]; rfl) [(.ref t), (.int (2 : Int32))] [] (lenOf own_pd_5 rfl) rfl rfl (hb hby d26_12)
  obtain ⟨rfl, Nc7, Kc6⟩ := hQ5
  refine own_go st5 ?_
  clear st5 X4 e4
  replace N0 := Fr.app N0 Nc7
  clear Nc7
  show own_Go p e below s _ _ _ (T5.setTop (mkF m 15 #[rv a1, iv (2 : Int32)] [(.int (x2 &&& (255 : Int32)))]))
  refine own_retN X5 hx hlk Kc6 (t := .char) hret (by simp) (hb hby d26_15) (by show _ ≤ 0; omega) (by show _ ≤ 0; omega) ?_
  exact ⟨(congrArg (fun z => some (Value.int z)) (own_narM x2)), N0, rfl⟩
def Q_lch_3 (Z : State) (zc : Int32) (wsf : Value) (t : Addr) (kt : ClassId) (nz : Int32) (tl : List Value) (x0 : Int32) (x1 : Int32) (x2 : Int32) (x3 : Int32) (h0 : Heap) (v : Option Value) (h : Heap) (L : List Loc) : Prop := (v = some (.int (x3 &&& (255 : Int32))) ∧ Fr Z.heap.size L ∧ h = h0)
theorem ef_lch_3 (m : MethodId) (x0 : Addr) : entryFrame m #[(.ref x0), (.int (3 : Int32))] 2 = mkF m 0 #[rv x0, iv (3 : Int32)] [] := by first | (simp [entryFrame, mkF, argsToLocals, Value.category]; done) | rfl
set_option maxRecDepth 65536 in
set_option maxHeartbeats 40000000 in
theorem rm_lch_3 (l : Launch) (Z : State) (a0 : Array Value) (hw : own_W Z a0) {zc : Int32} {wsf : Value} (hO : own_Olds Z zc wsf) (ws : List Jvm.Cond) (t : Addr) (kt : ClassId) (nz : Int32) (tl : List Value) (x0 : Int32) (x1 : Int32) (x2 : Int32) (x3 : Int32) (h0 : Heap) (O0 : Ext Z.heap h0) (fp0 : Arv Z h0 t kt .byte nz ((.int x0) :: (.int x1) :: (.int x2) :: (.int x3) :: tl) (.int (0 : Int32))) (hin : (3 : Int32) < nz) :
    own_MF l Z h0 own_y8 jdk_43_method_2_code 2 (some .char) ({ frames := 2, cells := 0, slots := 0, locals := 27 } : Room) #[(.ref t), (.int (3 : Int32))] (Q_lch_3 Z zc wsf t kt nz tl x0 x1 x2 x3 h0) ws := by
  refine own_met (Q := (Q_lch_3 Z zc wsf t kt nz tl x0 x1 x2 x3 h0)) _ _ (plainFor_of_name own_pn_3) ?_
  intro p e s m below meth c T X0 hx hby hml hret hlk hZ hown hnm e0
  replace hown : s.vm.findClass "java/lang/StringLatin1" = some m.cls := hown
  replace hnm : meth.name = "charAt" := hnm
  have hml : c.maxLocals = 2 := hml
  obtain ⟨oCS, oCz, oSF, r_wsf⟩ := id hO
  have N0 := Fr.nil Z.heap.size
  have K0 := Keep.refl h0 []
  refine own_go (fun _ k => castTop (ef_lch_3 m t) k) ?_
  show own_Go p e below s _ _ _ (T.setTop (mkF m 0 #[rv t, iv (3 : Int32)] []))
  refine own_go (fun _ k => XS.iloadN X0.here hx rfl (hb hby d27_0) rfl (XS.aloadN X0.here hx rfl (hb hby d27_1) rfl rfl k)) ?_
  show own_Go p e below s _ _ _ (T.setTop (mkF m 2 #[rv t, iv (3 : Int32)] [(.ref t), (.int (3 : Int32))]))
  obtain ⟨cl1, Ar1, -, S1, M1, -, -⟩ := id (fp0.keep K0 nin0)
  refine own_go (X0.arraylength hx (by rw [e0]; exact Ar1.1) (State.isArrayOf_alike hZ.alike Ar1.2.1) (g := (mkF m 2 #[rv t, iv (3 : Int32)] [(.ref t), (.int (3 : Int32))])) rfl rfl (hb hby d27_2)) ?_
  rw [len_of S1 M1]
  obtain ⟨v2, T2, L2, X2, hQ2, st2⟩ := own_callS (y := own_y7) X0 hx hZ hown (ow126 hw) (ow127 hw) (ow7 hw) (ow128 hw) (rm_sci l Z a0 hw hO [] (3 : Int32) nz h0 O0 (by decide : ¬ ((3 : Int32) < (0 : Int32))) hin) 0 0 0 (by show _ ≤ 0; omega) (by show _ ≤ 0; omega) e0 (g := (mkF m 3 #[rv t, iv (3 : Int32)] [(.int nz), (.int (3 : Int32))])) rfl (by rw [hml]; rfl) [(.int (3 : Int32)), (.int nz)] [] (lenOf own_pd_3 rfl) rfl rfl (hb hby d27_3)
  obtain ⟨rfl, Nc4, Kc3⟩ := hQ2
  refine own_go st2 ?_
  clear st2 X0 e0
  replace N0 := Fr.app N0 Nc4
  clear Nc4
  refine own_go (fun _ k => XS.aloadN X2.here hx rfl (hb hby d27_6) rfl rfl (XS.iloadN X2.here hx rfl (hb hby d27_7) rfl k)) ?_
  obtain ⟨cl5, Ar5, -, S5, -, P5, -⟩ := id (fp0.keep K0 nin0)
  have hin5 : ¬ ((3 : Int32) < 0 ∨ cl5.slots.size ≤ ((3 : Int32)).toNatClampNeg) := inb_of S5 ⟨by decide, hin⟩
  refine own_go (X2.baloadBytes hx (j := (3 : Int32)) (v := (.int x3)) (by rw [Kc3]; exact Ar5.1) (State.isArrayOf_alike hZ.alike Ar5.2.1) Ar5.2.2 hin5 (P5.at hin5 rfl) (g := (mkF m 8 #[rv t, iv (3 : Int32)] [(.int (3 : Int32)), (.ref t)])) rfl rfl (hb hby d27_8)) ?_
  refine own_go (fun _ k => XS.sipush X2.here hx rfl (hb hby d27_9) (XS.iand X2.here hx rfl (hb hby d27_12) rfl (XS.i2c X2.here hx rfl (hb hby d27_13) rfl k))) ?_
  show own_Go p e below s _ _ _ (T2.setTop (mkF m 14 #[rv t, iv (3 : Int32)] [(.int ((x3 &&& (255 : Int32)).toUInt32.toUInt16.toUInt32.toInt32))]))
  rw [i2c_mask x3]
  show own_Go p e below s _ _ _ (T2.setTop (mkF m 14 #[rv t, iv (3 : Int32)] [(.int (x3 &&& (255 : Int32)))]))
  refine own_retN X2 hx hlk Kc3 (t := .char) hret (by simp) (hb hby d27_14) (by show _ ≤ 0; omega) (by show _ ≤ 0; omega) ?_
  exact ⟨(congrArg (fun z => some (Value.int z)) (own_narM x3)), N0, rfl⟩
def Q_ch_3 (Z : State) (zc : Int32) (wsf : Value) (a1 : Addr) (t : Addr) (kt : ClassId) (nz : Int32) (tl : List Value) (x0 : Int32) (x1 : Int32) (x2 : Int32) (x3 : Int32) (h0 : Heap) (v : Option Value) (h : Heap) (L : List Loc) : Prop := (v = some (.int (x3 &&& (255 : Int32))) ∧ Fr Z.heap.size L ∧ h = h0)
theorem ef_ch_3 (m : MethodId) (x0 : Addr) : entryFrame m #[(.ref x0), (.int (3 : Int32))] 2 = mkF m 0 #[rv x0, iv (3 : Int32)] [] := by first | (simp [entryFrame, mkF, argsToLocals, Value.category]; done) | rfl
set_option maxRecDepth 65536 in
set_option maxHeartbeats 40000000 in
theorem rm_ch_3 (l : Launch) (Z : State) (a0 : Array Value) (hw : own_W Z a0) {zc : Int32} {wsf : Value} (hO : own_Olds Z zc wsf) (ws : List Jvm.Cond) (a1 : Addr) (t : Addr) (kt : ClassId) (nz : Int32) (tl : List Value) (x0 : Int32) (x1 : Int32) (x2 : Int32) (x3 : Int32) (h0 : Heap) (O0 : Ext Z.heap h0) (fp0 : Exa Z h0 a1 "java/lang/String") (fp1 : Fld Z h0 a1 "java/lang/String" "value" "[B" (.ref t)) (fp2 : Fld Z h0 a1 "java/lang/String" "coder" "B" (.int (0 : Int32))) (fp3 : Arv Z h0 t kt .byte nz ((.int x0) :: (.int x1) :: (.int x2) :: (.int x3) :: tl) (.int (0 : Int32))) (hin : (3 : Int32) < nz) :
    own_MF l Z h0 own_y9 jdk_42_method_56_code 2 (some .char) ({ frames := 3, cells := 0, slots := 0, locals := 40 } : Room) #[(.ref a1), (.int (3 : Int32))] (Q_ch_3 Z zc wsf a1 t kt nz tl x0 x1 x2 x3 h0) ws := by
  refine own_met (Q := (Q_ch_3 Z zc wsf a1 t kt nz tl x0 x1 x2 x3 h0)) _ _ (plainFor_of_name own_pn_0) ?_
  intro p e s m below meth c T X0 hx hby hml hret hlk hZ hown hnm e0
  replace hown : s.vm.findClass "java/lang/String" = some m.cls := hown
  replace hnm : meth.name = "charAt" := hnm
  have hml : c.maxLocals = 2 := hml
  obtain ⟨oCS, oCz, oSF, r_wsf⟩ := id hO
  have N0 := Fr.nil Z.heap.size
  have K0 := Keep.refl h0 []
  refine own_go (fun _ k => castTop (ef_ch_3 m a1) k) ?_
  show own_Go p e below s _ _ _ (T.setTop (mkF m 0 #[rv a1, iv (3 : Int32)] []))
  refine own_go (fun _ k => XS.aloadN X0.here hx rfl (hb hby d26_0) rfl rfl k) ?_
  obtain ⟨v1, T1, L1, X1, hQ1, st1⟩ := own_callV (y := own_y5) (z := own_y5) X0 hx hZ hown (ow92 hw) (ow93 hw) (notFace_of_selects (args := #[]) (mvT hZ (ow95 hw))) (ow95 hw) (ow94 hw) (ow7 hw) (ow96 hw) (rm_isLat l Z a0 hw hO [] a1 h0 O0 (fp2.keep K0 nin0)) 0 0 0 (by show _ ≤ 0; omega) (by show _ ≤ 0; omega) e0 (fp0.keep K0) (g := (mkF m 1 #[rv a1, iv (3 : Int32)] [(.ref a1)])) rfl (by rw [hml]; rfl) [] [] (lenOf own_pd_4 rfl) rfl rfl (hb hby d26_1)
  obtain ⟨rfl, Nc3, Kc2⟩ := hQ1
  refine own_go st1 ?_
  clear st1 X0 e0
  replace N0 := Fr.app N0 Nc3
  clear Nc3
  refine own_go (fun _ k => XS.ifNo X1.here hx rfl (hb hby d26_4) rfl ((if0 _ _).trans (feq (by decide : ¬ ((1 : Int32) = (0 : Int32)))).1) (XS.aloadN X1.here hx rfl (hb hby d26_7) rfl rfl k)) ?_
  obtain ⟨T4, X4, e4, st4⟩ := getF X1 hx hZ hown (host := "") (Or.inl (ow33 hw)) Via.refl Kc2 (fp1.keep K0 nin0) (g := (mkF m 8 #[rv a1, iv (3 : Int32)] [(.ref a1)])) rfl rfl (hb hby d26_8)
  refine own_go st4 ?_
  clear st4 X1 Kc2
  refine own_go (fun _ k => XS.iloadN X4.here hx rfl (hb hby d26_11) rfl k) ?_
  obtain ⟨v5, T5, L5, X5, hQ5, st5⟩ := own_callS (y := own_y8) X4 hx hZ hown (ow123 hw) (ow124 hw) (ow99 hw) (ow125 hw) (rm_lch_3 l Z a0 hw hO [] t kt nz (tl : List Value) x0 x1 x2 x3 h0 O0 (fp3.keep K0 nin0) hin) 0 0 0 (by show _ ≤ 0; omega) (by show _ ≤ 0; omega) e4 (g := (mkF m 12 #[rv a1, iv (3 : Int32)] [(.int (3 : Int32)), (.ref t)])) rfl (by rw [hml]; rfl) [(.ref t), (.int (3 : Int32))] [] (lenOf own_pd_5 rfl) rfl rfl (hb hby d26_12)
  obtain ⟨rfl, Nc7, Kc6⟩ := hQ5
  refine own_go st5 ?_
  clear st5 X4 e4
  replace N0 := Fr.app N0 Nc7
  clear Nc7
  show own_Go p e below s _ _ _ (T5.setTop (mkF m 15 #[rv a1, iv (3 : Int32)] [(.int (x3 &&& (255 : Int32)))]))
  refine own_retN X5 hx hlk Kc6 (t := .char) hret (by simp) (hb hby d26_15) (by show _ ≤ 0; omega) (by show _ ≤ 0; omega) ?_
  exact ⟨(congrArg (fun z => some (Value.int z)) (own_narM x3)), N0, rfl⟩
theorem d16_0 : decode jdk_48_method_14_code 0 = .ok (.iconst 0, 1) := by decide +kernel
theorem d16_1 : decode jdk_48_method_14_code 1 = .ok (.istore 5, 2) := by decide +kernel
theorem d16_3 : decode jdk_48_method_14_code 3 = .ok (.iload 4, 2) := by decide +kernel
theorem d16_5 : decode jdk_48_method_14_code 5 = .ok (.bipush 7, 2) := by decide +kernel
theorem d16_7 : decode jdk_48_method_14_code 7 = .ok (.if_icmp .le 63, 3) := by decide +kernel
theorem d16_70 : decode jdk_48_method_14_code 70 = .ok (.iload 5, 2) := by decide +kernel
theorem d16_72 : decode jdk_48_method_14_code 72 = .ok (.iload 4, 2) := by decide +kernel
theorem d16_74 : decode jdk_48_method_14_code 74 = .ok (.if_icmp .ge 27, 3) := by decide +kernel
theorem d16_77 : decode jdk_48_method_14_code 77 = .ok (.aload_n 0, 1) := by decide +kernel
theorem d16_78 : decode jdk_48_method_14_code 78 = .ok (.iload_n 1, 1) := by decide +kernel
theorem d16_79 : decode jdk_48_method_14_code 79 = .ok (.iload 5, 2) := by decide +kernel
theorem d16_81 : decode jdk_48_method_14_code 81 = .ok (.iadd, 1) := by decide +kernel
theorem d16_82 : decode jdk_48_method_14_code 82 = .ok (.baload, 1) := by decide +kernel
theorem d16_83 : decode jdk_48_method_14_code 83 = .ok (.aload_n 2, 1) := by decide +kernel
theorem d16_84 : decode jdk_48_method_14_code 84 = .ok (.iload_n 3, 1) := by decide +kernel
theorem d16_85 : decode jdk_48_method_14_code 85 = .ok (.iload 5, 2) := by decide +kernel
theorem d16_87 : decode jdk_48_method_14_code 87 = .ok (.iadd, 1) := by decide +kernel
theorem d16_88 : decode jdk_48_method_14_code 88 = .ok (.baload, 1) := by decide +kernel
theorem d16_89 : decode jdk_48_method_14_code 89 = .ok (.if_icmp .eq 6, 3) := by decide +kernel
theorem d16_92 : decode jdk_48_method_14_code 92 = .ok (.iload 5, 2) := by decide +kernel
theorem d16_94 : decode jdk_48_method_14_code 94 = .ok (.ireturn, 1) := by decide +kernel
theorem d16_95 : decode jdk_48_method_14_code 95 = .ok (.iinc 5 1, 3) := by decide +kernel
theorem d16_98 : decode jdk_48_method_14_code 98 = .ok (.goto (-28), 3) := by decide +kernel
theorem d16_101 : decode jdk_48_method_14_code 101 = .ok (.iconst (-1), 1) := by decide +kernel
theorem d16_102 : decode jdk_48_method_14_code 102 = .ok (.ireturn, 1) := by decide +kernel
def Q_mmG (Z : State) (zc : Int32) (wsf : Value) (t : Addr) (u : Addr) (kt : ClassId) (nz : Int32) (tl : List Value) (x0 : Int32) (ku : ClassId) (y0 : Int32) (h0 : Heap) (v : Option Value) (h : Heap) (L : List Loc) : Prop := (v = some (.int (-1 : Int32)) ∧ Fr Z.heap.size L ∧ x0 = y0 ∧ h = h0) ∨ (v = some (.int (0 : Int32)) ∧ Fr Z.heap.size L ∧ ¬ (x0 = y0) ∧ h = h0)
theorem ef_mmG (m : MethodId) (x0 : Addr) (x2 : Addr) : entryFrame m #[(.ref x0), (.int (0 : Int32)), (.ref x2), (.int (0 : Int32)), (.int (1 : Int32))] 8 = mkF m 0 #[rv x0, iv (0 : Int32), rv x2, iv (0 : Int32), iv (1 : Int32), .unset, .unset, .unset] [] := by first | (simp [entryFrame, mkF, argsToLocals, Value.category]; done) | rfl
set_option maxRecDepth 65536 in
set_option maxHeartbeats 40000000 in
theorem rm_mmG (l : Launch) (Z : State) (a0 : Array Value) (hw : own_W Z a0) {zc : Int32} {wsf : Value} (hO : own_Olds Z zc wsf) (ws : List Jvm.Cond) (t : Addr) (u : Addr) (kt : ClassId) (nz : Int32) (tl : List Value) (x0 : Int32) (ku : ClassId) (y0 : Int32) (h0 : Heap) (O0 : Ext Z.heap h0) (fp0 : Arv Z h0 t kt .byte nz ((.int x0) :: tl) (.int (0 : Int32))) (fp1 : Arv Z h0 u ku .byte (1 : Int32) [(.int y0)] (.int (0 : Int32))) (h0n : (0 : Int32) < nz) :
    own_MF l Z h0 own_y10 jdk_48_method_14_code 8 (some .int) ({ frames := 0, cells := 0, slots := 0, locals := 0 } : Room) #[(.ref t), (.int (0 : Int32)), (.ref u), (.int (0 : Int32)), (.int (1 : Int32))] (Q_mmG Z zc wsf t u kt nz tl x0 ku y0 h0) ws := by
  refine own_met (Q := (Q_mmG Z zc wsf t u kt nz tl x0 ku y0 h0)) _ _ (plainFor_of_name own_pn_4) ?_
  intro p e s m below meth c T X0 hx hby hml hret hlk hZ hown hnm e0
  replace hown : s.vm.findClass "jdk/internal/util/ArraysSupport" = some m.cls := hown
  replace hnm : meth.name = "mismatch" := hnm
  have hml : c.maxLocals = 8 := hml
  obtain ⟨oCS, oCz, oSF, r_wsf⟩ := id hO
  have N0 := Fr.nil Z.heap.size
  have K0 := Keep.refl h0 []
  refine own_go (fun _ k => castTop (ef_mmG m t u) k) ?_
  show own_Go p e below s _ _ _ (T.setTop (mkF m 0 #[rv t, iv (0 : Int32), rv u, iv (0 : Int32), iv (1 : Int32), .unset, .unset, .unset] []))
  refine own_go (fun _ k => XS.iconst X0.here hx rfl (hb hby d16_0) (XS.istore X0.here hx rfl (hb hby d16_1) rfl (l' := #[rv t, iv (0 : Int32), rv u, iv (0 : Int32), iv (1 : Int32), iv (0 : Int32), .unset, .unset]) rfl (XS.iload X0.here hx rfl (hb hby d16_3) rfl (XS.bipush X0.here hx rfl (hb hby d16_5) (XS.icmpYes X0.here hx rfl (pc0 := 7) (pc' := 70) rfl (hb hby d16_7) rfl (flt (by decide : ¬ ((7 : Int32) < (1 : Int32)))).2.2.2 (by decide) (by decide) (XS.iload X0.here hx rfl (hb hby d16_70) rfl (XS.iload X0.here hx rfl (hb hby d16_72) rfl (XS.icmpNo X0.here hx rfl (hb hby d16_74) rfl (tlt (by decide : (0 : Int32) < (1 : Int32))).2.1 k)))))))) ?_
  show own_Go p e below s _ _ _ (T.setTop (mkF m 77 #[rv t, iv (0 : Int32), rv u, iv (0 : Int32), iv (1 : Int32), iv (0 : Int32), .unset, .unset] []))
  refine own_go (fun _ k => XS.aloadN X0.here hx rfl (hb hby d16_77) rfl rfl (XS.iloadN X0.here hx rfl (hb hby d16_78) rfl (XS.iload X0.here hx rfl (hb hby d16_79) rfl (XS.iadd X0.here hx rfl (hb hby d16_81) rfl k)))) ?_
  obtain ⟨cl1, Ar1, -, S1, -, P1, -⟩ := id (fp0.keep K0 nin0)
  have hin1 : ¬ ((0 : Int32) < 0 ∨ cl1.slots.size ≤ ((0 : Int32)).toNatClampNeg) := inb_of S1 ⟨by decide, h0n⟩
  refine own_go (X0.baloadBytes hx (j := (0 : Int32)) (v := (.int x0)) (by rw [e0]; exact Ar1.1) (State.isArrayOf_alike hZ.alike Ar1.2.1) Ar1.2.2 hin1 (P1.at hin1 rfl) (g := (mkF m 82 #[rv t, iv (0 : Int32), rv u, iv (0 : Int32), iv (1 : Int32), iv (0 : Int32), .unset, .unset] [(.int (0 : Int32)), (.ref t)])) rfl rfl (hb hby d16_82)) ?_
  refine own_go (fun _ k => XS.aloadN X0.here hx rfl (hb hby d16_83) rfl rfl (XS.iloadN X0.here hx rfl (hb hby d16_84) rfl (XS.iload X0.here hx rfl (hb hby d16_85) rfl k))) ?_
  show own_Go p e below s _ _ _ (T.setTop (mkF m 87 #[rv t, iv (0 : Int32), rv u, iv (0 : Int32), iv (1 : Int32), iv (0 : Int32), .unset, .unset] [(.int (0 : Int32)), (.int (0 : Int32)), (.ref u), (.int x0)]))
  refine own_go (fun _ k => XS.iadd X0.here hx rfl (hb hby d16_87) rfl k) ?_
  obtain ⟨cl2, Ar2, -, S2, -, P2, -⟩ := id (fp1.keep K0 nin0)
  have hin2 : ¬ ((0 : Int32) < 0 ∨ cl2.slots.size ≤ ((0 : Int32)).toNatClampNeg) := inb_of S2 ⟨by decide, by decide⟩
  refine own_go (X0.baloadBytes hx (j := (0 : Int32)) (v := (.int y0)) (by rw [e0]; exact Ar2.1) (State.isArrayOf_alike hZ.alike Ar2.2.1) Ar2.2.2 hin2 (P2.at hin2 rfl) (g := (mkF m 88 #[rv t, iv (0 : Int32), rv u, iv (0 : Int32), iv (1 : Int32), iv (0 : Int32), .unset, .unset] [(.int (0 : Int32)), (.ref u), (.int x0)])) rfl rfl (hb hby d16_88)) ?_
  by_cases hc3 : x0 = y0
  · refine own_go (fun _ k => XS.icmpYes X0.here hx rfl (pc0 := 89) (pc' := 95) rfl (hb hby d16_89) rfl (teq hc3).1 (by decide) (by decide) k) ?_
    show own_Go p e below s _ _ _ (T.setTop (mkF m 95 #[rv t, iv (0 : Int32), rv u, iv (0 : Int32), iv (1 : Int32), iv (0 : Int32), .unset, .unset] []))
    refine own_go (fun _ k => XS.iinc X0.here hx rfl (hb hby d16_95) rfl (l' := #[rv t, iv (0 : Int32), rv u, iv (0 : Int32), iv (1 : Int32), iv (1 : Int32), .unset, .unset]) rfl (XS.goto X0.here hx rfl (pc0 := 98) (pc' := 70) rfl (hb hby d16_98) (by decide) (by decide) (XS.iload X0.here hx rfl (hb hby d16_70) rfl (XS.iload X0.here hx rfl (hb hby d16_72) rfl (XS.icmpYes X0.here hx rfl (pc0 := 74) (pc' := 101) rfl (hb hby d16_74) rfl (flt (by decide : ¬ ((1 : Int32) < (1 : Int32)))).2.1 (by decide) (by decide) (XS.iconst X0.here hx rfl (hb hby d16_101) k)))))) ?_
    show own_Go p e below s _ _ _ (T.setTop (mkF m 102 #[rv t, iv (0 : Int32), rv u, iv (0 : Int32), iv (1 : Int32), iv (1 : Int32), .unset, .unset] [(.int (-1 : Int32))]))
    refine own_retI X0 hx hlk e0 hret (hb hby d16_102) (by show _ ≤ 0; omega) (by show _ ≤ 0; omega) ?_
    exact Or.inl ⟨rfl, N0, hc3, rfl⟩
  · refine own_go (fun _ k => XS.icmpNo X0.here hx rfl (hb hby d16_89) rfl (feq hc3).1 k) ?_
    show own_Go p e below s _ _ _ (T.setTop (mkF m 92 #[rv t, iv (0 : Int32), rv u, iv (0 : Int32), iv (1 : Int32), iv (0 : Int32), .unset, .unset] []))
    refine own_go (fun _ k => XS.iload X0.here hx rfl (hb hby d16_92) rfl k) ?_
    show own_Go p e below s _ _ _ (T.setTop (mkF m 94 #[rv t, iv (0 : Int32), rv u, iv (0 : Int32), iv (1 : Int32), iv (0 : Int32), .unset, .unset] [(.int (0 : Int32))]))
    refine own_retI X0 hx hlk e0 hret (hb hby d16_94) (by show _ ≤ 0; omega) (by show _ ≤ 0; omega) ?_
    exact Or.inr (⟨rfl, N0, hc3, rfl⟩)
theorem d13_0 : decode jdk_42_method_75_code 0 = .ok (.iload_n 2, 1) := by decide +kernel
theorem d13_1 : decode jdk_42_method_75_code 1 = .ok (.ifCond .lt 16, 3) := by decide +kernel
theorem d13_4 : decode jdk_42_method_75_code 4 = .ok (.iload_n 2, 1) := by decide +kernel
theorem d13_5 : decode jdk_42_method_75_code 5 = .ok (.aload_n 0, 1) := by decide +kernel
theorem d13_6 : decode jdk_42_method_75_code 6 = .ok (.invokevirtual 505, 3) := by decide +kernel
theorem d13_9 : decode jdk_42_method_75_code 9 = .ok (.aload_n 1, 1) := by decide +kernel
theorem d13_10 : decode jdk_42_method_75_code 10 = .ok (.invokevirtual 505, 3) := by decide +kernel
theorem d13_13 : decode jdk_42_method_75_code 13 = .ok (.isub, 1) := by decide +kernel
theorem d13_14 : decode jdk_42_method_75_code 14 = .ok (.if_icmp .le 5, 3) := by decide +kernel
theorem d13_19 : decode jdk_42_method_75_code 19 = .ok (.aload_n 0, 1) := by decide +kernel
theorem d13_20 : decode jdk_42_method_75_code 20 = .ok (.getfield 9, 3) := by decide +kernel
theorem d13_23 : decode jdk_42_method_75_code 23 = .ok (.astore_n 3, 1) := by decide +kernel
theorem d13_24 : decode jdk_42_method_75_code 24 = .ok (.aload_n 1, 1) := by decide +kernel
theorem d13_25 : decode jdk_42_method_75_code 25 = .ok (.getfield 9, 3) := by decide +kernel
theorem d13_28 : decode jdk_42_method_75_code 28 = .ok (.astore 4, 2) := by decide +kernel
theorem d13_30 : decode jdk_42_method_75_code 30 = .ok (.iconst 0, 1) := by decide +kernel
theorem d13_31 : decode jdk_42_method_75_code 31 = .ok (.istore 5, 2) := by decide +kernel
theorem d13_33 : decode jdk_42_method_75_code 33 = .ok (.aload 4, 2) := by decide +kernel
theorem d13_35 : decode jdk_42_method_75_code 35 = .ok (.arraylength, 1) := by decide +kernel
theorem d13_36 : decode jdk_42_method_75_code 36 = .ok (.istore 6, 2) := by decide +kernel
theorem d13_38 : decode jdk_42_method_75_code 38 = .ok (.aload_n 0, 1) := by decide +kernel
theorem d13_39 : decode jdk_42_method_75_code 39 = .ok (.invokevirtual 335, 3) := by decide +kernel
theorem d13_42 : decode jdk_42_method_75_code 42 = .ok (.istore 7, 2) := by decide +kernel
theorem d13_44 : decode jdk_42_method_75_code 44 = .ok (.iload 7, 2) := by decide +kernel
theorem d13_46 : decode jdk_42_method_75_code 46 = .ok (.aload_n 1, 1) := by decide +kernel
theorem d13_47 : decode jdk_42_method_75_code 47 = .ok (.invokevirtual 335, 3) := by decide +kernel
theorem d13_50 : decode jdk_42_method_75_code 50 = .ok (.if_icmp .ne 32, 3) := by decide +kernel
theorem d13_53 : decode jdk_42_method_75_code 53 = .ok (.iload 7, 2) := by decide +kernel
theorem d13_55 : decode jdk_42_method_75_code 55 = .ok (.iconst 1, 1) := by decide +kernel
theorem d13_56 : decode jdk_42_method_75_code 56 = .ok (.if_icmp .ne 7, 3) := by decide +kernel
theorem d13_63 : decode jdk_42_method_75_code 63 = .ok (.aload_n 3, 1) := by decide +kernel
theorem d13_64 : decode jdk_42_method_75_code 64 = .ok (.iload_n 2, 1) := by decide +kernel
theorem d13_65 : decode jdk_42_method_75_code 65 = .ok (.aload 4, 2) := by decide +kernel
theorem d13_67 : decode jdk_42_method_75_code 67 = .ok (.iconst 0, 1) := by decide +kernel
theorem d13_68 : decode jdk_42_method_75_code 68 = .ok (.iload 6, 2) := by decide +kernel
theorem d13_70 : decode jdk_42_method_75_code 70 = .ok (.invokestatic 607, 3) := by decide +kernel
theorem d13_73 : decode jdk_42_method_75_code 73 = .ok (.ifCond .ge 7, 3) := by decide +kernel
theorem d13_76 : decode jdk_42_method_75_code 76 = .ok (.iconst 1, 1) := by decide +kernel
theorem d13_77 : decode jdk_42_method_75_code 77 = .ok (.goto 4, 3) := by decide +kernel
theorem d13_80 : decode jdk_42_method_75_code 80 = .ok (.iconst 0, 1) := by decide +kernel
theorem d13_81 : decode jdk_42_method_75_code 81 = .ok (.ireturn, 1) := by decide +kernel
def Q_sw2G (Z : State) (zc : Int32) (wsf : Value) (a1 : Addr) (a2 : Addr) (t : Addr) (u : Addr) (kt : ClassId) (nz : Int32) (tl : List Value) (x0 : Int32) (ku : ClassId) (y0 : Int32) (h0 : Heap) (v : Option Value) (h : Heap) (L : List Loc) : Prop := (v = some (.int (1 : Int32)) ∧ Fr Z.heap.size L ∧ x0 = y0 ∧ h = h0) ∨ (v = some (.int (0 : Int32)) ∧ Fr Z.heap.size L ∧ ¬ (x0 = y0) ∧ h = h0)
theorem ef_sw2G (m : MethodId) (x0 : Addr) (x1 : Addr) : entryFrame m #[(.ref x0), (.ref x1), (.int (0 : Int32))] 8 = mkF m 0 #[rv x0, rv x1, iv (0 : Int32), .unset, .unset, .unset, .unset, .unset] [] := by first | (simp [entryFrame, mkF, argsToLocals, Value.category]; done) | rfl
set_option maxRecDepth 65536 in
set_option maxHeartbeats 40000000 in
theorem rm_sw2G (l : Launch) (Z : State) (a0 : Array Value) (hw : own_W Z a0) {zc : Int32} {wsf : Value} (hO : own_Olds Z zc wsf) (ws : List Jvm.Cond) (a1 : Addr) (a2 : Addr) (t : Addr) (u : Addr) (kt : ClassId) (nz : Int32) (tl : List Value) (x0 : Int32) (ku : ClassId) (y0 : Int32) (h0 : Heap) (O0 : Ext Z.heap h0) (fp0 : Exa Z h0 a1 "java/lang/String") (fp1 : Fld Z h0 a1 "java/lang/String" "value" "[B" (.ref t)) (fp2 : Fld Z h0 a1 "java/lang/String" "coder" "B" (.int (0 : Int32))) (fp3 : Arv Z h0 t kt .byte nz ((.int x0) :: tl) (.int (0 : Int32))) (fp4 : Exa Z h0 a2 "java/lang/String") (fp5 : Fld Z h0 a2 "java/lang/String" "value" "[B" (.ref u)) (fp6 : Fld Z h0 a2 "java/lang/String" "coder" "B" (.int (0 : Int32))) (fp7 : Arv Z h0 u ku .byte (1 : Int32) [(.int y0)] (.int (0 : Int32))) (h0n : (0 : Int32) < nz) (hs1 : ¬ ((nz - (1 : Int32)) < (0 : Int32))) :
    own_MF l Z h0 own_y11 jdk_42_method_75_code 8 (some .boolean) ({ frames := 2, cells := 0, slots := 0, locals := 27 } : Room) #[(.ref a1), (.ref a2), (.int (0 : Int32))] (Q_sw2G Z zc wsf a1 a2 t u kt nz tl x0 ku y0 h0) ws := by
  refine own_met (Q := (Q_sw2G Z zc wsf a1 a2 t u kt nz tl x0 ku y0 h0)) _ _ (plainFor_of_name own_pn_0) ?_
  intro p e s m below meth c T X0 hx hby hml hret hlk hZ hown hnm e0
  replace hown : s.vm.findClass "java/lang/String" = some m.cls := hown
  replace hnm : meth.name = "startsWith" := hnm
  have hml : c.maxLocals = 8 := hml
  obtain ⟨oCS, oCz, oSF, r_wsf⟩ := id hO
  have N0 := Fr.nil Z.heap.size
  have K0 := Keep.refl h0 []
  refine own_go (fun _ k => castTop (ef_sw2G m a1 a2) k) ?_
  show own_Go p e below s _ _ _ (T.setTop (mkF m 0 #[rv a1, rv a2, iv (0 : Int32), .unset, .unset, .unset, .unset, .unset] []))
  refine own_go (fun _ k => XS.iloadN X0.here hx rfl (hb hby d13_0) rfl (XS.ifNo X0.here hx rfl (hb hby d13_1) rfl ((if0 _ _).trans (flt (by decide : ¬ ((0 : Int32) < (0 : Int32)))).1) (XS.iloadN X0.here hx rfl (hb hby d13_4) rfl (XS.aloadN X0.here hx rfl (hb hby d13_5) rfl rfl k)))) ?_
  obtain ⟨v1, T1, L1, X1, hQ1, st1⟩ := own_callV (y := own_y4) (z := own_y4) X0 hx hZ hown (ow68 hw) (ow69 hw) (notFace_of_selects (args := #[]) (mvT hZ (ow71 hw))) (ow71 hw) (ow70 hw) (ow7 hw) (ow72 hw) (rm_slenG l Z a0 hw hO [] a1 t kt nz (((.int x0) :: tl) : List Value) h0 O0 (fp0.keep K0) (fp1.keep K0 nin0) (fp2.keep K0 nin0) (fp3.keep K0 nin0)) 1 0 0 (by show _ ≤ 0; omega) (by show _ ≤ 0; omega) e0 (fp0.keep K0) (g := (mkF m 6 #[rv a1, rv a2, iv (0 : Int32), .unset, .unset, .unset, .unset, .unset] [(.ref a1), (.int (0 : Int32))])) rfl (by rw [hml]; rfl) [] [(.int (0 : Int32))] (lenOf own_pd_6 rfl) rfl rfl (hb hby d13_6)
  obtain ⟨rfl, Nc3, Kc2⟩ := hQ1
  refine own_go st1 ?_
  clear st1 X0 e0
  replace N0 := Fr.app N0 Nc3
  clear Nc3
  refine own_go (fun _ k => XS.aloadN X1.here hx rfl (hb hby d13_9) rfl rfl k) ?_
  obtain ⟨v4, T4, L4, X4, hQ4, st4⟩ := own_callV (y := own_y4) (z := own_y4) X1 hx hZ hown (ow68 hw) (ow69 hw) (notFace_of_selects (args := #[]) (mvT hZ (ow71 hw))) (ow71 hw) (ow70 hw) (ow7 hw) (ow72 hw) (rm_slenG l Z a0 hw hO [] a2 u ku (1 : Int32) ([(.int y0)] : List Value) h0 O0 (fp4.keep K0) (fp5.keep K0 nin0) (fp6.keep K0 nin0) (fp7.keep K0 nin0)) 2 0 0 (by show _ ≤ 0; omega) (by show _ ≤ 0; omega) Kc2 (fp4.keep K0) (g := (mkF m 10 #[rv a1, rv a2, iv (0 : Int32), .unset, .unset, .unset, .unset, .unset] [(.ref a2), (.int nz), (.int (0 : Int32))])) rfl (by rw [hml]; rfl) [] [(.int nz), (.int (0 : Int32))] (lenOf own_pd_6 rfl) rfl rfl (hb hby d13_10)
  obtain ⟨rfl, Nc6, Kc5⟩ := hQ4
  refine own_go st4 ?_
  clear st4 X1 Kc2
  replace N0 := Fr.app N0 Nc6
  clear Nc6
  refine own_go (fun _ k => XS.isub X4.here hx rfl (hb hby d13_13) rfl k) ?_
  show own_Go p e below s _ _ _ (T4.setTop (mkF m 14 #[rv a1, rv a2, iv (0 : Int32), .unset, .unset, .unset, .unset, .unset] [(.int (nz - (1 : Int32))), (.int (0 : Int32))]))
  refine own_go (fun _ k => XS.icmpYes X4.here hx rfl (pc0 := 14) (pc' := 19) rfl (hb hby d13_14) rfl (flt hs1).2.2.2 (by decide) (by decide) (XS.aloadN X4.here hx rfl (hb hby d13_19) rfl rfl k)) ?_
  obtain ⟨T7, X7, e7, st7⟩ := getF X4 hx hZ hown (host := "") (Or.inl (ow33 hw)) Via.refl Kc5 (fp1.keep K0 nin0) (g := (mkF m 20 #[rv a1, rv a2, iv (0 : Int32), .unset, .unset, .unset, .unset, .unset] [(.ref a1)])) rfl rfl (hb hby d13_20)
  refine own_go st7 ?_
  clear st7 X4 Kc5
  refine own_go (fun _ k => XS.astoreN X7.here hx rfl (hb hby d13_23) rfl rfl (l' := #[rv a1, rv a2, iv (0 : Int32), rv t, .unset, .unset, .unset, .unset]) rfl (XS.aloadN X7.here hx rfl (hb hby d13_24) rfl rfl k)) ?_
  obtain ⟨T8, X8, e8, st8⟩ := getF X7 hx hZ hown (host := "") (Or.inl (ow33 hw)) Via.refl e7 (fp5.keep K0 nin0) (g := (mkF m 25 #[rv a1, rv a2, iv (0 : Int32), rv t, .unset, .unset, .unset, .unset] [(.ref a2)])) rfl rfl (hb hby d13_25)
  refine own_go st8 ?_
  clear st8 X7 e7
  refine own_go (fun _ k => XS.astore X8.here hx rfl (hb hby d13_28) rfl rfl (l' := #[rv a1, rv a2, iv (0 : Int32), rv t, rv u, .unset, .unset, .unset]) rfl (XS.iconst X8.here hx rfl (hb hby d13_30) k)) ?_
  show own_Go p e below s _ _ _ (T8.setTop (mkF m 31 #[rv a1, rv a2, iv (0 : Int32), rv t, rv u, .unset, .unset, .unset] [(.int (0 : Int32))]))
  refine own_go (fun _ k => XS.istore X8.here hx rfl (hb hby d13_31) rfl (l' := #[rv a1, rv a2, iv (0 : Int32), rv t, rv u, iv (0 : Int32), .unset, .unset]) rfl (XS.aload X8.here hx rfl (hb hby d13_33) rfl rfl k)) ?_
  show own_Go p e below s _ _ _ (T8.setTop (mkF m 35 #[rv a1, rv a2, iv (0 : Int32), rv t, rv u, iv (0 : Int32), .unset, .unset] [(.ref u)]))
  obtain ⟨cl9, Ar9, -, S9, M9, -, -⟩ := id (fp7.keep K0 nin0)
  refine own_go (X8.arraylength hx (by rw [e8]; exact Ar9.1) (State.isArrayOf_alike hZ.alike Ar9.2.1) (g := (mkF m 35 #[rv a1, rv a2, iv (0 : Int32), rv t, rv u, iv (0 : Int32), .unset, .unset] [(.ref u)])) rfl rfl (hb hby d13_35)) ?_
  rw [len_of S9 M9]
  refine own_go (fun _ k => XS.istore X8.here hx rfl (hb hby d13_36) rfl (l' := #[rv a1, rv a2, iv (0 : Int32), rv t, rv u, iv (0 : Int32), iv (1 : Int32), .unset]) rfl (XS.aloadN X8.here hx rfl (hb hby d13_38) rfl rfl k)) ?_
  obtain ⟨v10, T10, L10, X10, hQ10, st10⟩ := own_callV (y := own_y3) (z := own_y3) X8 hx hZ hown (ow73 hw) (ow74 hw) (notFace_of_selects (args := #[]) (mvT hZ (ow76 hw))) (ow76 hw) (ow75 hw) (ow7 hw) (ow77 hw) (rm_scoder l Z a0 hw hO [] a1 h0 O0 (fp2.keep K0 nin0)) 0 0 0 (by show _ ≤ 0; omega) (by show _ ≤ 0; omega) e8 (fp0.keep K0) (g := (mkF m 39 #[rv a1, rv a2, iv (0 : Int32), rv t, rv u, iv (0 : Int32), iv (1 : Int32), .unset] [(.ref a1)])) rfl (by rw [hml]; rfl) [] [] (lenOf own_pd_1 rfl) rfl rfl (hb hby d13_39)
  obtain ⟨rfl, Nc12, Kc11⟩ := hQ10
  refine own_go st10 ?_
  clear st10 X8 e8
  replace N0 := Fr.app N0 Nc12
  clear Nc12
  refine own_go (fun _ k => XS.istore X10.here hx rfl (hb hby d13_42) rfl (l' := #[rv a1, rv a2, iv (0 : Int32), rv t, rv u, iv (0 : Int32), iv (1 : Int32), iv (0 : Int32)]) rfl (XS.iload X10.here hx rfl (hb hby d13_44) rfl (XS.aloadN X10.here hx rfl (hb hby d13_46) rfl rfl k))) ?_
  obtain ⟨v13, T13, L13, X13, hQ13, st13⟩ := own_callV (y := own_y3) (z := own_y3) X10 hx hZ hown (ow73 hw) (ow74 hw) (notFace_of_selects (args := #[]) (mvT hZ (ow76 hw))) (ow76 hw) (ow75 hw) (ow7 hw) (ow77 hw) (rm_scoder l Z a0 hw hO [] a2 h0 O0 (fp6.keep K0 nin0)) 1 0 0 (by show _ ≤ 0; omega) (by show _ ≤ 0; omega) Kc11 (fp4.keep K0) (g := (mkF m 47 #[rv a1, rv a2, iv (0 : Int32), rv t, rv u, iv (0 : Int32), iv (1 : Int32), iv (0 : Int32)] [(.ref a2), (.int (0 : Int32))])) rfl (by rw [hml]; rfl) [] [(.int (0 : Int32))] (lenOf own_pd_1 rfl) rfl rfl (hb hby d13_47)
  obtain ⟨rfl, Nc15, Kc14⟩ := hQ13
  refine own_go st13 ?_
  clear st13 X10 Kc11
  replace N0 := Fr.app N0 Nc15
  clear Nc15
  show own_Go p e below s _ _ _ (T13.setTop (mkF m 50 #[rv a1, rv a2, iv (0 : Int32), rv t, rv u, iv (0 : Int32), iv (1 : Int32), iv (0 : Int32)] [(.int (0 : Int32)), (.int (0 : Int32))]))
  refine own_go (fun _ k => XS.icmpNo X13.here hx rfl (hb hby d13_50) rfl (teq (by decide : (0 : Int32) = (0 : Int32))).2 (XS.iload X13.here hx rfl (hb hby d13_53) rfl (XS.iconst X13.here hx rfl (hb hby d13_55) (XS.icmpYes X13.here hx rfl (pc0 := 56) (pc' := 63) rfl (hb hby d13_56) rfl (feq (by decide : ¬ ((0 : Int32) = (1 : Int32)))).2 (by decide) (by decide) (XS.aloadN X13.here hx rfl (hb hby d13_63) rfl rfl (XS.iloadN X13.here hx rfl (hb hby d13_64) rfl (XS.aload X13.here hx rfl (hb hby d13_65) rfl rfl (XS.iconst X13.here hx rfl (hb hby d13_67) k)))))))) ?_
  show own_Go p e below s _ _ _ (T13.setTop (mkF m 68 #[rv a1, rv a2, iv (0 : Int32), rv t, rv u, iv (0 : Int32), iv (1 : Int32), iv (0 : Int32)] [(.int (0 : Int32)), (.ref u), (.int (0 : Int32)), (.ref t)]))
  refine own_go (fun _ k => XS.iload X13.here hx rfl (hb hby d13_68) rfl k) ?_
  obtain ⟨v16, T16, L16, X16, hQ16, st16⟩ := own_callS (y := own_y10) X13 hx hZ hown (ow78 hw) (ow79 hw) (ow80 hw) (ow81 hw) (rm_mmG l Z a0 hw hO [] t u kt nz (tl : List Value) x0 ku y0 h0 O0 (fp3.keep K0 nin0) (fp7.keep K0 nin0) h0n) 0 0 0 (by show _ ≤ 0; omega) (by show _ ≤ 0; omega) Kc14 (g := (mkF m 70 #[rv a1, rv a2, iv (0 : Int32), rv t, rv u, iv (0 : Int32), iv (1 : Int32), iv (0 : Int32)] [(.int (1 : Int32)), (.int (0 : Int32)), (.ref u), (.int (0 : Int32)), (.ref t)])) rfl (by rw [hml]; rfl) [(.ref t), (.int (0 : Int32)), (.ref u), (.int (0 : Int32)), (.int (1 : Int32))] [] (lenOf own_pd_7 rfl) rfl rfl (hb hby d13_70)
  rcases hQ16 with hQ16 | hQ16
  · obtain ⟨rfl, Nc19, hp17, Kc18⟩ := hQ16
    refine own_go st16 ?_
    clear st16 X13 Kc14
    replace N0 := Fr.app N0 Nc19
    clear Nc19
    show own_Go p e below s _ _ _ (T16.setTop (mkF m 73 #[rv a1, rv a2, iv (0 : Int32), rv t, rv u, iv (0 : Int32), iv (1 : Int32), iv (0 : Int32)] [(.int (-1 : Int32))]))
    refine own_go (fun _ k => XS.ifNo X16.here hx rfl (hb hby d13_73) rfl ((if0 _ _).trans (tlt (by decide : (-1 : Int32) < (0 : Int32))).2.1) (XS.iconst X16.here hx rfl (hb hby d13_76) (XS.goto X16.here hx rfl (pc0 := 77) (pc' := 81) rfl (hb hby d13_77) (by decide) (by decide) k))) ?_
    show own_Go p e below s _ _ _ (T16.setTop (mkF m 81 #[rv a1, rv a2, iv (0 : Int32), rv t, rv u, iv (0 : Int32), iv (1 : Int32), iv (0 : Int32)] [(.int (1 : Int32))]))
    refine own_retN X16 hx hlk Kc18 (t := .boolean) hret (by simp) (hb hby d13_81) (by show _ ≤ 0; omega) (by show _ ≤ 0; omega) ?_
    exact Or.inl ⟨rfl, N0, hp17, rfl⟩
  · obtain ⟨rfl, Nc22, hp20, Kc21⟩ := hQ16
    refine own_go st16 ?_
    clear st16 X13 Kc14
    replace N0 := Fr.app N0 Nc22
    clear Nc22
    show own_Go p e below s _ _ _ (T16.setTop (mkF m 73 #[rv a1, rv a2, iv (0 : Int32), rv t, rv u, iv (0 : Int32), iv (1 : Int32), iv (0 : Int32)] [(.int (0 : Int32))]))
    refine own_go (fun _ k => XS.ifYes X16.here hx rfl (pc0 := 73) (pc' := 80) rfl (hb hby d13_73) rfl ((if0 _ _).trans (flt (by decide : ¬ ((0 : Int32) < (0 : Int32)))).2.1) (by decide) (by decide) (XS.iconst X16.here hx rfl (hb hby d13_80) k)) ?_
    show own_Go p e below s _ _ _ (T16.setTop (mkF m 81 #[rv a1, rv a2, iv (0 : Int32), rv t, rv u, iv (0 : Int32), iv (1 : Int32), iv (0 : Int32)] [(.int (0 : Int32))]))
    refine own_retN X16 hx hlk Kc21 (t := .boolean) hret (by simp) (hb hby d13_81) (by show _ ≤ 0; omega) (by show _ ≤ 0; omega) ?_
    exact Or.inr (⟨rfl, N0, hp20, rfl⟩)
theorem d12_0 : decode jdk_42_method_76_code 0 = .ok (.aload_n 0, 1) := by decide +kernel
theorem d12_1 : decode jdk_42_method_76_code 1 = .ok (.aload_n 1, 1) := by decide +kernel
theorem d12_2 : decode jdk_42_method_76_code 2 = .ok (.iconst 0, 1) := by decide +kernel
theorem d12_3 : decode jdk_42_method_76_code 3 = .ok (.invokevirtual 624, 3) := by decide +kernel
theorem d12_6 : decode jdk_42_method_76_code 6 = .ok (.ireturn, 1) := by decide +kernel
def Q_sw1G (Z : State) (zc : Int32) (wsf : Value) (a1 : Addr) (a2 : Addr) (t : Addr) (u : Addr) (kt : ClassId) (nz : Int32) (tl : List Value) (x0 : Int32) (ku : ClassId) (y0 : Int32) (h0 : Heap) (v : Option Value) (h : Heap) (L : List Loc) : Prop := (v = some (.int (1 : Int32)) ∧ Fr Z.heap.size L ∧ x0 = y0 ∧ h = h0) ∨ (v = some (.int (0 : Int32)) ∧ Fr Z.heap.size L ∧ ¬ (x0 = y0) ∧ h = h0)
theorem ef_sw1G (m : MethodId) (x0 : Addr) (x1 : Addr) : entryFrame m #[(.ref x0), (.ref x1)] 2 = mkF m 0 #[rv x0, rv x1] [] := by first | (simp [entryFrame, mkF, argsToLocals, Value.category]; done) | rfl
set_option maxRecDepth 65536 in
set_option maxHeartbeats 40000000 in
theorem rm_sw1G (l : Launch) (Z : State) (a0 : Array Value) (hw : own_W Z a0) {zc : Int32} {wsf : Value} (hO : own_Olds Z zc wsf) (ws : List Jvm.Cond) (a1 : Addr) (a2 : Addr) (t : Addr) (u : Addr) (kt : ClassId) (nz : Int32) (tl : List Value) (x0 : Int32) (ku : ClassId) (y0 : Int32) (h0 : Heap) (O0 : Ext Z.heap h0) (fp0 : Exa Z h0 a1 "java/lang/String") (fp1 : Fld Z h0 a1 "java/lang/String" "value" "[B" (.ref t)) (fp2 : Fld Z h0 a1 "java/lang/String" "coder" "B" (.int (0 : Int32))) (fp3 : Arv Z h0 t kt .byte nz ((.int x0) :: tl) (.int (0 : Int32))) (fp4 : Exa Z h0 a2 "java/lang/String") (fp5 : Fld Z h0 a2 "java/lang/String" "value" "[B" (.ref u)) (fp6 : Fld Z h0 a2 "java/lang/String" "coder" "B" (.int (0 : Int32))) (fp7 : Arv Z h0 u ku .byte (1 : Int32) [(.int y0)] (.int (0 : Int32))) (h0n : (0 : Int32) < nz) (hs1 : ¬ ((nz - (1 : Int32)) < (0 : Int32))) :
    own_MF l Z h0 own_y12 jdk_42_method_76_code 2 (some .boolean) ({ frames := 3, cells := 0, slots := 0, locals := 46 } : Room) #[(.ref a1), (.ref a2)] (Q_sw1G Z zc wsf a1 a2 t u kt nz tl x0 ku y0 h0) ws := by
  refine own_met (Q := (Q_sw1G Z zc wsf a1 a2 t u kt nz tl x0 ku y0 h0)) _ _ (plainFor_of_name own_pn_0) ?_
  intro p e s m below meth c T X0 hx hby hml hret hlk hZ hown hnm e0
  replace hown : s.vm.findClass "java/lang/String" = some m.cls := hown
  replace hnm : meth.name = "startsWith" := hnm
  have hml : c.maxLocals = 2 := hml
  obtain ⟨oCS, oCz, oSF, r_wsf⟩ := id hO
  have N0 := Fr.nil Z.heap.size
  have K0 := Keep.refl h0 []
  refine own_go (fun _ k => castTop (ef_sw1G m a1 a2) k) ?_
  show own_Go p e below s _ _ _ (T.setTop (mkF m 0 #[rv a1, rv a2] []))
  refine own_go (fun _ k => XS.aloadN X0.here hx rfl (hb hby d12_0) rfl rfl (XS.aloadN X0.here hx rfl (hb hby d12_1) rfl rfl (XS.iconst X0.here hx rfl (hb hby d12_2) k))) ?_
  obtain ⟨v1, T1, L1, X1, hQ1, st1⟩ := own_callV (y := own_y11) (z := own_y11) X0 hx hZ hown (ow63 hw) (ow64 hw) (notFace_of_selects (args := #[]) (mvT hZ (ow66 hw))) (ow66 hw) (ow65 hw) (ow7 hw) (ow67 hw) (rm_sw2G l Z a0 hw hO [] a1 a2 t u kt nz (tl : List Value) x0 ku y0 h0 O0 (fp0.keep K0) (fp1.keep K0 nin0) (fp2.keep K0 nin0) (fp3.keep K0 nin0) (fp4.keep K0) (fp5.keep K0 nin0) (fp6.keep K0 nin0) (fp7.keep K0 nin0) h0n hs1) 0 0 0 (by show _ ≤ 0; omega) (by show _ ≤ 0; omega) e0 (fp0.keep K0) (g := (mkF m 3 #[rv a1, rv a2] [(.int (0 : Int32)), (.ref a2), (.ref a1)])) rfl (by rw [hml]; rfl) [(.ref a2), (.int (0 : Int32))] [] (lenOf own_pd_8 rfl) rfl rfl (hb hby d12_3)
  rcases hQ1 with hQ1 | hQ1
  · obtain ⟨rfl, Nc4, hp2, Kc3⟩ := hQ1
    refine own_go st1 ?_
    clear st1 X0 e0
    replace N0 := Fr.app N0 Nc4
    clear Nc4
    show own_Go p e below s _ _ _ (T1.setTop (mkF m 6 #[rv a1, rv a2] [(.int (1 : Int32))]))
    refine own_retN X1 hx hlk Kc3 (t := .boolean) hret (by simp) (hb hby d12_6) (by show _ ≤ 0; omega) (by show _ ≤ 0; omega) ?_
    exact Or.inl ⟨rfl, N0, hp2, rfl⟩
  · obtain ⟨rfl, Nc7, hp5, Kc6⟩ := hQ1
    refine own_go st1 ?_
    clear st1 X0 e0
    replace N0 := Fr.app N0 Nc7
    clear Nc7
    show own_Go p e below s _ _ _ (T1.setTop (mkF m 6 #[rv a1, rv a2] [(.int (0 : Int32))]))
    refine own_retN X1 hx hlk Kc6 (t := .boolean) hret (by simp) (hb hby d12_6) (by show _ ≤ 0; omega) (by show _ ≤ 0; omega) ?_
    exact Or.inr (⟨rfl, N0, hp5, rfl⟩)
theorem d21_0 : decode jdk_43_method_4_code 0 = .ok (.iload_n 0, 1) := by decide +kernel
theorem d21_1 : decode jdk_43_method_4_code 1 = .ok (.ifCond .lt 14, 3) := by decide +kernel
theorem d21_4 : decode jdk_43_method_4_code 4 = .ok (.iload_n 0, 1) := by decide +kernel
theorem d21_5 : decode jdk_43_method_4_code 5 = .ok (.sipush 255, 3) := by decide +kernel
theorem d21_8 : decode jdk_43_method_4_code 8 = .ok (.if_icmp .gt 7, 3) := by decide +kernel
theorem d21_11 : decode jdk_43_method_4_code 11 = .ok (.iconst 1, 1) := by decide +kernel
theorem d21_12 : decode jdk_43_method_4_code 12 = .ok (.goto 4, 3) := by decide +kernel
theorem d21_16 : decode jdk_43_method_4_code 16 = .ok (.ireturn, 1) := by decide +kernel
def Q_canE46 (Z : State) (zc : Int32) (wsf : Value) (h0 : Heap) (v : Option Value) (h : Heap) (L : List Loc) : Prop := (v = some (.int (1 : Int32)) ∧ Fr Z.heap.size L ∧ h = h0)
theorem ef_canE46 (m : MethodId) : entryFrame m #[(.int (46 : Int32))] 1 = mkF m 0 #[iv (46 : Int32)] [] := by first | (simp [entryFrame, mkF, argsToLocals, Value.category]; done) | rfl
set_option maxRecDepth 65536 in
set_option maxHeartbeats 40000000 in
theorem rm_canE46 (l : Launch) (Z : State) (a0 : Array Value) (hw : own_W Z a0) {zc : Int32} {wsf : Value} (hO : own_Olds Z zc wsf) (ws : List Jvm.Cond)  (h0 : Heap) (O0 : Ext Z.heap h0) :
    own_MF l Z h0 own_y13 jdk_43_method_4_code 1 (some .boolean) ({ frames := 0, cells := 0, slots := 0, locals := 0 } : Room) #[(.int (46 : Int32))] (Q_canE46 Z zc wsf h0) ws := by
  refine own_met (Q := (Q_canE46 Z zc wsf h0)) _ _ (plainFor_of_name own_pn_3) ?_
  intro p e s m below meth c T X0 hx hby hml hret hlk hZ hown hnm e0
  replace hown : s.vm.findClass "java/lang/StringLatin1" = some m.cls := hown
  replace hnm : meth.name = "canEncode" := hnm
  have hml : c.maxLocals = 1 := hml
  obtain ⟨oCS, oCz, oSF, r_wsf⟩ := id hO
  have N0 := Fr.nil Z.heap.size
  have K0 := Keep.refl h0 []
  refine own_go (fun _ k => castTop (ef_canE46 m ) k) ?_
  show own_Go p e below s _ _ _ (T.setTop (mkF m 0 #[iv (46 : Int32)] []))
  refine own_go (fun _ k => XS.iloadN X0.here hx rfl (hb hby d21_0) rfl (XS.ifNo X0.here hx rfl (hb hby d21_1) rfl ((if0 _ _).trans (flt (by decide : ¬ ((46 : Int32) < (0 : Int32)))).1) (XS.iloadN X0.here hx rfl (hb hby d21_4) rfl (XS.sipush X0.here hx rfl (hb hby d21_5) (XS.icmpNo X0.here hx rfl (hb hby d21_8) rfl (flt (by decide : ¬ ((255 : Int32) < (46 : Int32)))).2.2.1 (XS.iconst X0.here hx rfl (hb hby d21_11) (XS.goto X0.here hx rfl (pc0 := 12) (pc' := 16) rfl (hb hby d21_12) (by decide) (by decide) k))))))) ?_
  show own_Go p e below s _ _ _ (T.setTop (mkF m 16 #[iv (46 : Int32)] [(.int (1 : Int32))]))
  refine own_retN X0 hx hlk e0 (t := .boolean) hret (by simp) (hb hby d21_16) (by show _ ≤ 0; omega) (by show _ ≤ 0; omega) ?_
  exact ⟨rfl, N0, rfl⟩
theorem d22_0 : decode jdk_29_method_65_code 0 = .ok (.iload_n 0, 1) := by decide +kernel
theorem d22_1 : decode jdk_29_method_65_code 1 = .ok (.iload_n 1, 1) := by decide +kernel
theorem d22_2 : decode jdk_29_method_65_code 2 = .ok (.if_icmp .lt 7, 3) := by decide +kernel
theorem d22_5 : decode jdk_29_method_65_code 5 = .ok (.iload_n 0, 1) := by decide +kernel
theorem d22_6 : decode jdk_29_method_65_code 6 = .ok (.goto 4, 3) := by decide +kernel
theorem d22_9 : decode jdk_29_method_65_code 9 = .ok (.iload_n 1, 1) := by decide +kernel
theorem d22_10 : decode jdk_29_method_65_code 10 = .ok (.ireturn, 1) := by decide +kernel
def Q_maxi (Z : State) (zc : Int32) (wsf : Value) (p1 : Int32) (p2 : Int32) (h0 : Heap) (v : Option Value) (h : Heap) (L : List Loc) : Prop := (v = some (.int p2) ∧ Fr Z.heap.size L ∧ p1 < p2 ∧ h = h0) ∨ (v = some (.int p1) ∧ Fr Z.heap.size L ∧ ¬ (p1 < p2) ∧ h = h0)
theorem ef_maxi (m : MethodId) (x0 : Int32) (x1 : Int32) : entryFrame m #[(.int x0), (.int x1)] 2 = mkF m 0 #[iv x0, iv x1] [] := by first | (simp [entryFrame, mkF, argsToLocals, Value.category]; done) | rfl
set_option maxRecDepth 65536 in
set_option maxHeartbeats 40000000 in
theorem rm_maxi (l : Launch) (Z : State) (a0 : Array Value) (hw : own_W Z a0) {zc : Int32} {wsf : Value} (hO : own_Olds Z zc wsf) (ws : List Jvm.Cond) (p1 : Int32) (p2 : Int32) (h0 : Heap) (O0 : Ext Z.heap h0) :
    own_MF l Z h0 own_y14 jdk_29_method_65_code 2 (some .int) ({ frames := 0, cells := 0, slots := 0, locals := 0 } : Room) #[(.int p1), (.int p2)] (Q_maxi Z zc wsf p1 p2 h0) ws := by
  refine own_met (Q := (Q_maxi Z zc wsf p1 p2 h0)) _ _ (Jvm.Free.JP.mathPlain rfl (by decide +kernel)) ?_
  intro p e s m below meth c T X0 hx hby hml hret hlk hZ hown hnm e0
  replace hown : s.vm.findClass "java/lang/Math" = some m.cls := hown
  replace hnm : meth.name = "max" := hnm
  have hml : c.maxLocals = 2 := hml
  obtain ⟨oCS, oCz, oSF, r_wsf⟩ := id hO
  have N0 := Fr.nil Z.heap.size
  have K0 := Keep.refl h0 []
  refine own_go (fun _ k => castTop (ef_maxi m p1 p2) k) ?_
  show own_Go p e below s _ _ _ (T.setTop (mkF m 0 #[iv p1, iv p2] []))
  refine own_go (fun _ k => XS.iloadN X0.here hx rfl (hb hby d22_0) rfl (XS.iloadN X0.here hx rfl (hb hby d22_1) rfl k)) ?_
  by_cases hc1 : p1 < p2
  · refine own_go (fun _ k => XS.icmpYes X0.here hx rfl (pc0 := 2) (pc' := 9) rfl (hb hby d22_2) rfl (tlt hc1).1 (by decide) (by decide) k) ?_
    show own_Go p e below s _ _ _ (T.setTop (mkF m 9 #[iv p1, iv p2] []))
    refine own_go (fun _ k => XS.iloadN X0.here hx rfl (hb hby d22_9) rfl k) ?_
    show own_Go p e below s _ _ _ (T.setTop (mkF m 10 #[iv p1, iv p2] [(.int p2)]))
    refine own_retI X0 hx hlk e0 hret (hb hby d22_10) (by show _ ≤ 0; omega) (by show _ ≤ 0; omega) ?_
    exact Or.inl ⟨rfl, N0, hc1, rfl⟩
  · refine own_go (fun _ k => XS.icmpNo X0.here hx rfl (hb hby d22_2) rfl (flt hc1).1 k) ?_
    show own_Go p e below s _ _ _ (T.setTop (mkF m 5 #[iv p1, iv p2] []))
    refine own_go (fun _ k => XS.iloadN X0.here hx rfl (hb hby d22_5) rfl (XS.goto X0.here hx rfl (pc0 := 6) (pc' := 10) rfl (hb hby d22_6) (by decide) (by decide) k)) ?_
    show own_Go p e below s _ _ _ (T.setTop (mkF m 10 #[iv p1, iv p2] [(.int p1)]))
    refine own_retI X0 hx hlk e0 hret (hb hby d22_10) (by show _ ≤ 0; omega) (by show _ ≤ 0; omega) ?_
    exact Or.inr (⟨rfl, N0, hc1, rfl⟩)
theorem d23_0 : decode jdk_29_method_69_code 0 = .ok (.iload_n 0, 1) := by decide +kernel
theorem d23_1 : decode jdk_29_method_69_code 1 = .ok (.iload_n 1, 1) := by decide +kernel
theorem d23_2 : decode jdk_29_method_69_code 2 = .ok (.if_icmp .gt 7, 3) := by decide +kernel
theorem d23_5 : decode jdk_29_method_69_code 5 = .ok (.iload_n 0, 1) := by decide +kernel
theorem d23_6 : decode jdk_29_method_69_code 6 = .ok (.goto 4, 3) := by decide +kernel
theorem d23_9 : decode jdk_29_method_69_code 9 = .ok (.iload_n 1, 1) := by decide +kernel
theorem d23_10 : decode jdk_29_method_69_code 10 = .ok (.ireturn, 1) := by decide +kernel
def Q_mini (Z : State) (zc : Int32) (wsf : Value) (p1 : Int32) (p2 : Int32) (h0 : Heap) (v : Option Value) (h : Heap) (L : List Loc) : Prop := (v = some (.int p2) ∧ Fr Z.heap.size L ∧ p2 < p1 ∧ h = h0) ∨ (v = some (.int p1) ∧ Fr Z.heap.size L ∧ ¬ (p2 < p1) ∧ h = h0)
theorem ef_mini (m : MethodId) (x0 : Int32) (x1 : Int32) : entryFrame m #[(.int x0), (.int x1)] 2 = mkF m 0 #[iv x0, iv x1] [] := by first | (simp [entryFrame, mkF, argsToLocals, Value.category]; done) | rfl
set_option maxRecDepth 65536 in
set_option maxHeartbeats 40000000 in
theorem rm_mini (l : Launch) (Z : State) (a0 : Array Value) (hw : own_W Z a0) {zc : Int32} {wsf : Value} (hO : own_Olds Z zc wsf) (ws : List Jvm.Cond) (p1 : Int32) (p2 : Int32) (h0 : Heap) (O0 : Ext Z.heap h0) :
    own_MF l Z h0 own_y15 jdk_29_method_69_code 2 (some .int) ({ frames := 0, cells := 0, slots := 0, locals := 0 } : Room) #[(.int p1), (.int p2)] (Q_mini Z zc wsf p1 p2 h0) ws := by
  refine own_met (Q := (Q_mini Z zc wsf p1 p2 h0)) _ _ (Jvm.Free.JP.mathPlain rfl (by decide +kernel)) ?_
  intro p e s m below meth c T X0 hx hby hml hret hlk hZ hown hnm e0
  replace hown : s.vm.findClass "java/lang/Math" = some m.cls := hown
  replace hnm : meth.name = "min" := hnm
  have hml : c.maxLocals = 2 := hml
  obtain ⟨oCS, oCz, oSF, r_wsf⟩ := id hO
  have N0 := Fr.nil Z.heap.size
  have K0 := Keep.refl h0 []
  refine own_go (fun _ k => castTop (ef_mini m p1 p2) k) ?_
  show own_Go p e below s _ _ _ (T.setTop (mkF m 0 #[iv p1, iv p2] []))
  refine own_go (fun _ k => XS.iloadN X0.here hx rfl (hb hby d23_0) rfl (XS.iloadN X0.here hx rfl (hb hby d23_1) rfl k)) ?_
  by_cases hc1 : p2 < p1
  · refine own_go (fun _ k => XS.icmpYes X0.here hx rfl (pc0 := 2) (pc' := 9) rfl (hb hby d23_2) rfl (tlt hc1).2.2.1 (by decide) (by decide) k) ?_
    show own_Go p e below s _ _ _ (T.setTop (mkF m 9 #[iv p1, iv p2] []))
    refine own_go (fun _ k => XS.iloadN X0.here hx rfl (hb hby d23_9) rfl k) ?_
    show own_Go p e below s _ _ _ (T.setTop (mkF m 10 #[iv p1, iv p2] [(.int p2)]))
    refine own_retI X0 hx hlk e0 hret (hb hby d23_10) (by show _ ≤ 0; omega) (by show _ ≤ 0; omega) ?_
    exact Or.inl ⟨rfl, N0, hc1, rfl⟩
  · refine own_go (fun _ k => XS.icmpNo X0.here hx rfl (hb hby d23_2) rfl (flt hc1).2.2.1 k) ?_
    show own_Go p e below s _ _ _ (T.setTop (mkF m 5 #[iv p1, iv p2] []))
    refine own_go (fun _ k => XS.iloadN X0.here hx rfl (hb hby d23_5) rfl (XS.goto X0.here hx rfl (pc0 := 6) (pc' := 10) rfl (hb hby d23_6) (by decide) (by decide) k)) ?_
    show own_Go p e below s _ _ _ (T.setTop (mkF m 10 #[iv p1, iv p2] [(.int p1)]))
    refine own_retI X0 hx hlk e0 hret (hb hby d23_10) (by show _ ≤ 0; omega) (by show _ ≤ 0; omega) ?_
    exact Or.inr (⟨rfl, N0, hc1, rfl⟩)
theorem d24_0 : decode jdk_43_method_23_code 0 = .ok (.iload_n 1, 1) := by decide +kernel
theorem d24_1 : decode jdk_43_method_23_code 1 = .ok (.i2b, 1) := by decide +kernel
theorem d24_2 : decode jdk_43_method_23_code 2 = .ok (.istore 4, 2) := by decide +kernel
theorem d24_4 : decode jdk_43_method_23_code 4 = .ok (.iload_n 2, 1) := by decide +kernel
theorem d24_5 : decode jdk_43_method_23_code 5 = .ok (.istore 5, 2) := by decide +kernel
theorem d24_7 : decode jdk_43_method_23_code 7 = .ok (.iload 5, 2) := by decide +kernel
theorem d24_9 : decode jdk_43_method_23_code 9 = .ok (.iload_n 3, 1) := by decide +kernel
theorem d24_10 : decode jdk_43_method_23_code 10 = .ok (.if_icmp .ge 21, 3) := by decide +kernel
theorem d24_13 : decode jdk_43_method_23_code 13 = .ok (.aload_n 0, 1) := by decide +kernel
theorem d24_14 : decode jdk_43_method_23_code 14 = .ok (.iload 5, 2) := by decide +kernel
theorem d24_16 : decode jdk_43_method_23_code 16 = .ok (.baload, 1) := by decide +kernel
theorem d24_17 : decode jdk_43_method_23_code 17 = .ok (.iload 4, 2) := by decide +kernel
theorem d24_19 : decode jdk_43_method_23_code 19 = .ok (.if_icmp .ne 6, 3) := by decide +kernel
theorem d24_22 : decode jdk_43_method_23_code 22 = .ok (.iload 5, 2) := by decide +kernel
theorem d24_24 : decode jdk_43_method_23_code 24 = .ok (.ireturn, 1) := by decide +kernel
theorem d24_25 : decode jdk_43_method_23_code 25 = .ok (.iinc 5 1, 3) := by decide +kernel
theorem d24_28 : decode jdk_43_method_23_code 28 = .ok (.goto (-21), 3) := by decide +kernel
theorem d24_31 : decode jdk_43_method_23_code 31 = .ok (.iconst (-1), 1) := by decide +kernel
theorem d24_32 : decode jdk_43_method_23_code 32 = .ok (.ireturn, 1) := by decide +kernel
def Q_iocG (Z : State) (zc : Int32) (wsf : Value) (t : Addr) (nz : Int32) (rd : Int32) (h0 : Heap) (v : Option Value) (h : Heap) (L : List Loc) : Prop := (v = some (.int rd) ∧ Fr Z.heap.size L ∧ h = h0)
theorem ef_iocG (m : MethodId) (x0 : Addr) (x3 : Int32) : entryFrame m #[(.ref x0), (.int (46 : Int32)), (.int (0 : Int32)), (.int x3)] 6 = mkF m 0 #[rv x0, iv (46 : Int32), iv (0 : Int32), iv x3, .unset, .unset] [] := by first | (simp [entryFrame, mkF, argsToLocals, Value.category]; done) | rfl
set_option maxRecDepth 65536 in
set_option maxHeartbeats 40000000 in
theorem rm_iocG (l : Launch) (Z : State) (a0 : Array Value) (hw : own_W Z a0) {zc : Int32} {wsf : Value} (hO : own_Olds Z zc wsf) (ws : List Jvm.Cond) (t : Addr) (nz : Int32) (rd : Int32) (h0 : Heap) (O0 : Ext Z.heap h0) (fp0 : own_Dot Z h0 t nz rd) :
    own_MF l Z h0 own_y16 jdk_43_method_23_code 6 (some .int) ({ frames := 0, cells := 0, slots := 0, locals := 0 } : Room) #[(.ref t), (.int (46 : Int32)), (.int (0 : Int32)), (.int nz)] (Q_iocG Z zc wsf t nz rd h0) ws := by
  refine own_met (Q := (Q_iocG Z zc wsf t nz rd h0)) _ _ (plainFor_of_name own_pn_3) ?_
  intro p e s m below meth c T X0 hx hby hml hret hlk hZ hown hnm e0
  replace hown : s.vm.findClass "java/lang/StringLatin1" = some m.cls := hown
  replace hnm : meth.name = "indexOfChar" := hnm
  have hml : c.maxLocals = 6 := hml
  obtain ⟨oCS, oCz, oSF, r_wsf⟩ := id hO
  have N0 := Fr.nil Z.heap.size
  have K0 := Keep.refl h0 []
  refine own_go (fun _ k => castTop (ef_iocG m t nz) k) ?_
  show own_Go p e below s _ _ _ (T.setTop (mkF m 0 #[rv t, iv (46 : Int32), iv (0 : Int32), iv nz, .unset, .unset] []))
  rcases fp0 with ⟨kt, x1, x3, rfl, rfl, g3, hgx1, hgx3⟩ | ⟨kt, x1, x2, rfl, rfl, g3, hgx1, hgx2⟩ | ⟨kt, x0, x2, rfl, rfl, g3, hgx0, hgx2⟩ | ⟨kt, x0, x1, rfl, rfl, g3, hgx0, hgx1⟩
  · show own_Go p e below s _ _ _ (T.setTop (mkF m 0 #[rv t, iv (46 : Int32), iv (0 : Int32), iv (4 : Int32), .unset, .unset] []))
    show own_Go p e below s _ _ _ (T.setTop (mkF m 0 #[rv t, iv (46 : Int32), iv (0 : Int32), iv (4 : Int32), .unset, .unset] []))
    refine own_go (fun _ k => XS.iloadN X0.here hx rfl (hb hby d24_0) rfl (XS.i2b X0.here hx rfl (hb hby d24_1) rfl k)) ?_
    show own_Go p e below s _ _ _ (T.setTop (mkF m 2 #[rv t, iv (46 : Int32), iv (0 : Int32), iv (4 : Int32), .unset, .unset] [(.int ((46 : Int32).toInt8.toInt32))]))
    rw [show ((46 : Int32).toInt8.toInt32) = (46 : Int32) from by decide]
    refine own_go (fun _ k => XS.istore X0.here hx rfl (hb hby d24_2) rfl (l' := #[rv t, iv (46 : Int32), iv (0 : Int32), iv (4 : Int32), iv (46 : Int32), .unset]) rfl (XS.iloadN X0.here hx rfl (hb hby d24_4) rfl (XS.istore X0.here hx rfl (hb hby d24_5) rfl (l' := #[rv t, iv (46 : Int32), iv (0 : Int32), iv (4 : Int32), iv (46 : Int32), iv (0 : Int32)]) rfl (XS.iload X0.here hx rfl (hb hby d24_7) rfl (XS.iloadN X0.here hx rfl (hb hby d24_9) rfl (XS.icmpNo X0.here hx rfl (hb hby d24_10) rfl (tlt (by decide : (0 : Int32) < (4 : Int32))).2.1 k)))))) ?_
    show own_Go p e below s _ _ _ (T.setTop (mkF m 13 #[rv t, iv (46 : Int32), iv (0 : Int32), iv (4 : Int32), iv (46 : Int32), iv (0 : Int32)] []))
    refine own_go (fun _ k => XS.aloadN X0.here hx rfl (hb hby d24_13) rfl rfl (XS.iload X0.here hx rfl (hb hby d24_14) rfl k)) ?_
    obtain ⟨cl1, Ar1, -, S1, -, P1, -⟩ := id (g3.keep K0 nin0)
    have hin1 : ¬ ((0 : Int32) < 0 ∨ cl1.slots.size ≤ ((0 : Int32)).toNatClampNeg) := inb_of S1 ⟨by decide, by decide⟩
    refine own_go (X0.baloadBytes hx (j := (0 : Int32)) (v := (.int (45 : Int32))) (by rw [e0]; exact Ar1.1) (State.isArrayOf_alike hZ.alike Ar1.2.1) Ar1.2.2 hin1 (P1.at hin1 rfl) (g := (mkF m 16 #[rv t, iv (46 : Int32), iv (0 : Int32), iv (4 : Int32), iv (46 : Int32), iv (0 : Int32)] [(.int (0 : Int32)), (.ref t)])) rfl rfl (hb hby d24_16)) ?_
    refine own_go (fun _ k => XS.iload X0.here hx rfl (hb hby d24_17) rfl (XS.icmpYes X0.here hx rfl (pc0 := 19) (pc' := 25) rfl (hb hby d24_19) rfl (feq (by decide : ¬ ((45 : Int32) = (46 : Int32)))).2 (by decide) (by decide) (XS.iinc X0.here hx rfl (hb hby d24_25) rfl (l' := #[rv t, iv (46 : Int32), iv (0 : Int32), iv (4 : Int32), iv (46 : Int32), iv (1 : Int32)]) rfl (XS.goto X0.here hx rfl (pc0 := 28) (pc' := 7) rfl (hb hby d24_28) (by decide) (by decide) (XS.iload X0.here hx rfl (hb hby d24_7) rfl k))))) ?_
    show own_Go p e below s _ _ _ (T.setTop (mkF m 9 #[rv t, iv (46 : Int32), iv (0 : Int32), iv (4 : Int32), iv (46 : Int32), iv (1 : Int32)] [(.int (1 : Int32))]))
    refine own_go (fun _ k => XS.iloadN X0.here hx rfl (hb hby d24_9) rfl (XS.icmpNo X0.here hx rfl (hb hby d24_10) rfl (tlt (by decide : (1 : Int32) < (4 : Int32))).2.1 (XS.aloadN X0.here hx rfl (hb hby d24_13) rfl rfl (XS.iload X0.here hx rfl (hb hby d24_14) rfl k)))) ?_
    obtain ⟨cl2, Ar2, -, S2, -, P2, -⟩ := id (g3.keep K0 nin0)
    have hin2 : ¬ ((1 : Int32) < 0 ∨ cl2.slots.size ≤ ((1 : Int32)).toNatClampNeg) := inb_of S2 ⟨by decide, by decide⟩
    refine own_go (X0.baloadBytes hx (j := (1 : Int32)) (v := (.int x1)) (by rw [e0]; exact Ar2.1) (State.isArrayOf_alike hZ.alike Ar2.2.1) Ar2.2.2 hin2 (P2.at hin2 rfl) (g := (mkF m 16 #[rv t, iv (46 : Int32), iv (0 : Int32), iv (4 : Int32), iv (46 : Int32), iv (1 : Int32)] [(.int (1 : Int32)), (.ref t)])) rfl rfl (hb hby d24_16)) ?_
    refine own_go (fun _ k => XS.iload X0.here hx rfl (hb hby d24_17) rfl (XS.icmpYes X0.here hx rfl (pc0 := 19) (pc' := 25) rfl (hb hby d24_19) rfl (feq hgx1.2.2.1).2 (by decide) (by decide) (XS.iinc X0.here hx rfl (hb hby d24_25) rfl (l' := #[rv t, iv (46 : Int32), iv (0 : Int32), iv (4 : Int32), iv (46 : Int32), iv (2 : Int32)]) rfl k))) ?_
    show own_Go p e below s _ _ _ (T.setTop (mkF m 28 #[rv t, iv (46 : Int32), iv (0 : Int32), iv (4 : Int32), iv (46 : Int32), iv (2 : Int32)] []))
    refine own_go (fun _ k => XS.goto X0.here hx rfl (pc0 := 28) (pc' := 7) rfl (hb hby d24_28) (by decide) (by decide) (XS.iload X0.here hx rfl (hb hby d24_7) rfl (XS.iloadN X0.here hx rfl (hb hby d24_9) rfl (XS.icmpNo X0.here hx rfl (hb hby d24_10) rfl (tlt (by decide : (2 : Int32) < (4 : Int32))).2.1 (XS.aloadN X0.here hx rfl (hb hby d24_13) rfl rfl (XS.iload X0.here hx rfl (hb hby d24_14) rfl k)))))) ?_
    obtain ⟨cl3, Ar3, -, S3, -, P3, -⟩ := id (g3.keep K0 nin0)
    have hin3 : ¬ ((2 : Int32) < 0 ∨ cl3.slots.size ≤ ((2 : Int32)).toNatClampNeg) := inb_of S3 ⟨by decide, by decide⟩
    refine own_go (X0.baloadBytes hx (j := (2 : Int32)) (v := (.int (46 : Int32))) (by rw [e0]; exact Ar3.1) (State.isArrayOf_alike hZ.alike Ar3.2.1) Ar3.2.2 hin3 (P3.at hin3 rfl) (g := (mkF m 16 #[rv t, iv (46 : Int32), iv (0 : Int32), iv (4 : Int32), iv (46 : Int32), iv (2 : Int32)] [(.int (2 : Int32)), (.ref t)])) rfl rfl (hb hby d24_16)) ?_
    refine own_go (fun _ k => XS.iload X0.here hx rfl (hb hby d24_17) rfl k) ?_
    show own_Go p e below s _ _ _ (T.setTop (mkF m 19 #[rv t, iv (46 : Int32), iv (0 : Int32), iv (4 : Int32), iv (46 : Int32), iv (2 : Int32)] [(.int (46 : Int32)), (.int (46 : Int32))]))
    refine own_go (fun _ k => XS.icmpNo X0.here hx rfl (hb hby d24_19) rfl (teq (by decide : (46 : Int32) = (46 : Int32))).2 (XS.iload X0.here hx rfl (hb hby d24_22) rfl k)) ?_
    show own_Go p e below s _ _ _ (T.setTop (mkF m 24 #[rv t, iv (46 : Int32), iv (0 : Int32), iv (4 : Int32), iv (46 : Int32), iv (2 : Int32)] [(.int (2 : Int32))]))
    refine own_retI X0 hx hlk e0 hret (hb hby d24_24) (by show _ ≤ 0; omega) (by show _ ≤ 0; omega) ?_
    exact ⟨rfl, N0, rfl⟩
  · show own_Go p e below s _ _ _ (T.setTop (mkF m 0 #[rv t, iv (46 : Int32), iv (0 : Int32), iv (3 : Int32), .unset, .unset] []))
    show own_Go p e below s _ _ _ (T.setTop (mkF m 0 #[rv t, iv (46 : Int32), iv (0 : Int32), iv (3 : Int32), .unset, .unset] []))
    refine own_go (fun _ k => XS.iloadN X0.here hx rfl (hb hby d24_0) rfl (XS.i2b X0.here hx rfl (hb hby d24_1) rfl k)) ?_
    show own_Go p e below s _ _ _ (T.setTop (mkF m 2 #[rv t, iv (46 : Int32), iv (0 : Int32), iv (3 : Int32), .unset, .unset] [(.int ((46 : Int32).toInt8.toInt32))]))
    rw [show ((46 : Int32).toInt8.toInt32) = (46 : Int32) from by decide]
    refine own_go (fun _ k => XS.istore X0.here hx rfl (hb hby d24_2) rfl (l' := #[rv t, iv (46 : Int32), iv (0 : Int32), iv (3 : Int32), iv (46 : Int32), .unset]) rfl (XS.iloadN X0.here hx rfl (hb hby d24_4) rfl (XS.istore X0.here hx rfl (hb hby d24_5) rfl (l' := #[rv t, iv (46 : Int32), iv (0 : Int32), iv (3 : Int32), iv (46 : Int32), iv (0 : Int32)]) rfl (XS.iload X0.here hx rfl (hb hby d24_7) rfl (XS.iloadN X0.here hx rfl (hb hby d24_9) rfl (XS.icmpNo X0.here hx rfl (hb hby d24_10) rfl (tlt (by decide : (0 : Int32) < (3 : Int32))).2.1 k)))))) ?_
    show own_Go p e below s _ _ _ (T.setTop (mkF m 13 #[rv t, iv (46 : Int32), iv (0 : Int32), iv (3 : Int32), iv (46 : Int32), iv (0 : Int32)] []))
    refine own_go (fun _ k => XS.aloadN X0.here hx rfl (hb hby d24_13) rfl rfl (XS.iload X0.here hx rfl (hb hby d24_14) rfl k)) ?_
    obtain ⟨cl4, Ar4, -, S4, -, P4, -⟩ := id (g3.keep K0 nin0)
    have hin4 : ¬ ((0 : Int32) < 0 ∨ cl4.slots.size ≤ ((0 : Int32)).toNatClampNeg) := inb_of S4 ⟨by decide, by decide⟩
    refine own_go (X0.baloadBytes hx (j := (0 : Int32)) (v := (.int (45 : Int32))) (by rw [e0]; exact Ar4.1) (State.isArrayOf_alike hZ.alike Ar4.2.1) Ar4.2.2 hin4 (P4.at hin4 rfl) (g := (mkF m 16 #[rv t, iv (46 : Int32), iv (0 : Int32), iv (3 : Int32), iv (46 : Int32), iv (0 : Int32)] [(.int (0 : Int32)), (.ref t)])) rfl rfl (hb hby d24_16)) ?_
    refine own_go (fun _ k => XS.iload X0.here hx rfl (hb hby d24_17) rfl (XS.icmpYes X0.here hx rfl (pc0 := 19) (pc' := 25) rfl (hb hby d24_19) rfl (feq (by decide : ¬ ((45 : Int32) = (46 : Int32)))).2 (by decide) (by decide) (XS.iinc X0.here hx rfl (hb hby d24_25) rfl (l' := #[rv t, iv (46 : Int32), iv (0 : Int32), iv (3 : Int32), iv (46 : Int32), iv (1 : Int32)]) rfl (XS.goto X0.here hx rfl (pc0 := 28) (pc' := 7) rfl (hb hby d24_28) (by decide) (by decide) (XS.iload X0.here hx rfl (hb hby d24_7) rfl k))))) ?_
    show own_Go p e below s _ _ _ (T.setTop (mkF m 9 #[rv t, iv (46 : Int32), iv (0 : Int32), iv (3 : Int32), iv (46 : Int32), iv (1 : Int32)] [(.int (1 : Int32))]))
    refine own_go (fun _ k => XS.iloadN X0.here hx rfl (hb hby d24_9) rfl (XS.icmpNo X0.here hx rfl (hb hby d24_10) rfl (tlt (by decide : (1 : Int32) < (3 : Int32))).2.1 (XS.aloadN X0.here hx rfl (hb hby d24_13) rfl rfl (XS.iload X0.here hx rfl (hb hby d24_14) rfl k)))) ?_
    obtain ⟨cl5, Ar5, -, S5, -, P5, -⟩ := id (g3.keep K0 nin0)
    have hin5 : ¬ ((1 : Int32) < 0 ∨ cl5.slots.size ≤ ((1 : Int32)).toNatClampNeg) := inb_of S5 ⟨by decide, by decide⟩
    refine own_go (X0.baloadBytes hx (j := (1 : Int32)) (v := (.int x1)) (by rw [e0]; exact Ar5.1) (State.isArrayOf_alike hZ.alike Ar5.2.1) Ar5.2.2 hin5 (P5.at hin5 rfl) (g := (mkF m 16 #[rv t, iv (46 : Int32), iv (0 : Int32), iv (3 : Int32), iv (46 : Int32), iv (1 : Int32)] [(.int (1 : Int32)), (.ref t)])) rfl rfl (hb hby d24_16)) ?_
    refine own_go (fun _ k => XS.iload X0.here hx rfl (hb hby d24_17) rfl (XS.icmpYes X0.here hx rfl (pc0 := 19) (pc' := 25) rfl (hb hby d24_19) rfl (feq hgx1.2.2.1).2 (by decide) (by decide) (XS.iinc X0.here hx rfl (hb hby d24_25) rfl (l' := #[rv t, iv (46 : Int32), iv (0 : Int32), iv (3 : Int32), iv (46 : Int32), iv (2 : Int32)]) rfl k))) ?_
    show own_Go p e below s _ _ _ (T.setTop (mkF m 28 #[rv t, iv (46 : Int32), iv (0 : Int32), iv (3 : Int32), iv (46 : Int32), iv (2 : Int32)] []))
    refine own_go (fun _ k => XS.goto X0.here hx rfl (pc0 := 28) (pc' := 7) rfl (hb hby d24_28) (by decide) (by decide) (XS.iload X0.here hx rfl (hb hby d24_7) rfl (XS.iloadN X0.here hx rfl (hb hby d24_9) rfl (XS.icmpNo X0.here hx rfl (hb hby d24_10) rfl (tlt (by decide : (2 : Int32) < (3 : Int32))).2.1 (XS.aloadN X0.here hx rfl (hb hby d24_13) rfl rfl (XS.iload X0.here hx rfl (hb hby d24_14) rfl k)))))) ?_
    obtain ⟨cl6, Ar6, -, S6, -, P6, -⟩ := id (g3.keep K0 nin0)
    have hin6 : ¬ ((2 : Int32) < 0 ∨ cl6.slots.size ≤ ((2 : Int32)).toNatClampNeg) := inb_of S6 ⟨by decide, by decide⟩
    refine own_go (X0.baloadBytes hx (j := (2 : Int32)) (v := (.int x2)) (by rw [e0]; exact Ar6.1) (State.isArrayOf_alike hZ.alike Ar6.2.1) Ar6.2.2 hin6 (P6.at hin6 rfl) (g := (mkF m 16 #[rv t, iv (46 : Int32), iv (0 : Int32), iv (3 : Int32), iv (46 : Int32), iv (2 : Int32)] [(.int (2 : Int32)), (.ref t)])) rfl rfl (hb hby d24_16)) ?_
    refine own_go (fun _ k => XS.iload X0.here hx rfl (hb hby d24_17) rfl k) ?_
    show own_Go p e below s _ _ _ (T.setTop (mkF m 19 #[rv t, iv (46 : Int32), iv (0 : Int32), iv (3 : Int32), iv (46 : Int32), iv (2 : Int32)] [(.int (46 : Int32)), (.int x2)]))
    refine own_go (fun _ k => XS.icmpYes X0.here hx rfl (pc0 := 19) (pc' := 25) rfl (hb hby d24_19) rfl (feq hgx2.2.2.1).2 (by decide) (by decide) (XS.iinc X0.here hx rfl (hb hby d24_25) rfl (l' := #[rv t, iv (46 : Int32), iv (0 : Int32), iv (3 : Int32), iv (46 : Int32), iv (3 : Int32)]) rfl (XS.goto X0.here hx rfl (pc0 := 28) (pc' := 7) rfl (hb hby d24_28) (by decide) (by decide) (XS.iload X0.here hx rfl (hb hby d24_7) rfl (XS.iloadN X0.here hx rfl (hb hby d24_9) rfl (XS.icmpYes X0.here hx rfl (pc0 := 10) (pc' := 31) rfl (hb hby d24_10) rfl (flt (by decide : ¬ ((3 : Int32) < (3 : Int32)))).2.1 (by decide) (by decide) (XS.iconst X0.here hx rfl (hb hby d24_31) k))))))) ?_
    show own_Go p e below s _ _ _ (T.setTop (mkF m 32 #[rv t, iv (46 : Int32), iv (0 : Int32), iv (3 : Int32), iv (46 : Int32), iv (3 : Int32)] [(.int (-1 : Int32))]))
    refine own_retI X0 hx hlk e0 hret (hb hby d24_32) (by show _ ≤ 0; omega) (by show _ ≤ 0; omega) ?_
    exact ⟨rfl, N0, rfl⟩
  · show own_Go p e below s _ _ _ (T.setTop (mkF m 0 #[rv t, iv (46 : Int32), iv (0 : Int32), iv (3 : Int32), .unset, .unset] []))
    show own_Go p e below s _ _ _ (T.setTop (mkF m 0 #[rv t, iv (46 : Int32), iv (0 : Int32), iv (3 : Int32), .unset, .unset] []))
    refine own_go (fun _ k => XS.iloadN X0.here hx rfl (hb hby d24_0) rfl (XS.i2b X0.here hx rfl (hb hby d24_1) rfl k)) ?_
    show own_Go p e below s _ _ _ (T.setTop (mkF m 2 #[rv t, iv (46 : Int32), iv (0 : Int32), iv (3 : Int32), .unset, .unset] [(.int ((46 : Int32).toInt8.toInt32))]))
    rw [show ((46 : Int32).toInt8.toInt32) = (46 : Int32) from by decide]
    refine own_go (fun _ k => XS.istore X0.here hx rfl (hb hby d24_2) rfl (l' := #[rv t, iv (46 : Int32), iv (0 : Int32), iv (3 : Int32), iv (46 : Int32), .unset]) rfl (XS.iloadN X0.here hx rfl (hb hby d24_4) rfl (XS.istore X0.here hx rfl (hb hby d24_5) rfl (l' := #[rv t, iv (46 : Int32), iv (0 : Int32), iv (3 : Int32), iv (46 : Int32), iv (0 : Int32)]) rfl (XS.iload X0.here hx rfl (hb hby d24_7) rfl (XS.iloadN X0.here hx rfl (hb hby d24_9) rfl (XS.icmpNo X0.here hx rfl (hb hby d24_10) rfl (tlt (by decide : (0 : Int32) < (3 : Int32))).2.1 k)))))) ?_
    show own_Go p e below s _ _ _ (T.setTop (mkF m 13 #[rv t, iv (46 : Int32), iv (0 : Int32), iv (3 : Int32), iv (46 : Int32), iv (0 : Int32)] []))
    refine own_go (fun _ k => XS.aloadN X0.here hx rfl (hb hby d24_13) rfl rfl (XS.iload X0.here hx rfl (hb hby d24_14) rfl k)) ?_
    obtain ⟨cl7, Ar7, -, S7, -, P7, -⟩ := id (g3.keep K0 nin0)
    have hin7 : ¬ ((0 : Int32) < 0 ∨ cl7.slots.size ≤ ((0 : Int32)).toNatClampNeg) := inb_of S7 ⟨by decide, by decide⟩
    refine own_go (X0.baloadBytes hx (j := (0 : Int32)) (v := (.int x0)) (by rw [e0]; exact Ar7.1) (State.isArrayOf_alike hZ.alike Ar7.2.1) Ar7.2.2 hin7 (P7.at hin7 rfl) (g := (mkF m 16 #[rv t, iv (46 : Int32), iv (0 : Int32), iv (3 : Int32), iv (46 : Int32), iv (0 : Int32)] [(.int (0 : Int32)), (.ref t)])) rfl rfl (hb hby d24_16)) ?_
    refine own_go (fun _ k => XS.iload X0.here hx rfl (hb hby d24_17) rfl (XS.icmpYes X0.here hx rfl (pc0 := 19) (pc' := 25) rfl (hb hby d24_19) rfl (feq hgx0.2.2.1).2 (by decide) (by decide) (XS.iinc X0.here hx rfl (hb hby d24_25) rfl (l' := #[rv t, iv (46 : Int32), iv (0 : Int32), iv (3 : Int32), iv (46 : Int32), iv (1 : Int32)]) rfl (XS.goto X0.here hx rfl (pc0 := 28) (pc' := 7) rfl (hb hby d24_28) (by decide) (by decide) (XS.iload X0.here hx rfl (hb hby d24_7) rfl k))))) ?_
    show own_Go p e below s _ _ _ (T.setTop (mkF m 9 #[rv t, iv (46 : Int32), iv (0 : Int32), iv (3 : Int32), iv (46 : Int32), iv (1 : Int32)] [(.int (1 : Int32))]))
    refine own_go (fun _ k => XS.iloadN X0.here hx rfl (hb hby d24_9) rfl (XS.icmpNo X0.here hx rfl (hb hby d24_10) rfl (tlt (by decide : (1 : Int32) < (3 : Int32))).2.1 (XS.aloadN X0.here hx rfl (hb hby d24_13) rfl rfl (XS.iload X0.here hx rfl (hb hby d24_14) rfl k)))) ?_
    obtain ⟨cl8, Ar8, -, S8, -, P8, -⟩ := id (g3.keep K0 nin0)
    have hin8 : ¬ ((1 : Int32) < 0 ∨ cl8.slots.size ≤ ((1 : Int32)).toNatClampNeg) := inb_of S8 ⟨by decide, by decide⟩
    refine own_go (X0.baloadBytes hx (j := (1 : Int32)) (v := (.int (46 : Int32))) (by rw [e0]; exact Ar8.1) (State.isArrayOf_alike hZ.alike Ar8.2.1) Ar8.2.2 hin8 (P8.at hin8 rfl) (g := (mkF m 16 #[rv t, iv (46 : Int32), iv (0 : Int32), iv (3 : Int32), iv (46 : Int32), iv (1 : Int32)] [(.int (1 : Int32)), (.ref t)])) rfl rfl (hb hby d24_16)) ?_
    refine own_go (fun _ k => XS.iload X0.here hx rfl (hb hby d24_17) rfl (XS.icmpNo X0.here hx rfl (hb hby d24_19) rfl (teq (by decide : (46 : Int32) = (46 : Int32))).2 (XS.iload X0.here hx rfl (hb hby d24_22) rfl k))) ?_
    show own_Go p e below s _ _ _ (T.setTop (mkF m 24 #[rv t, iv (46 : Int32), iv (0 : Int32), iv (3 : Int32), iv (46 : Int32), iv (1 : Int32)] [(.int (1 : Int32))]))
    refine own_retI X0 hx hlk e0 hret (hb hby d24_24) (by show _ ≤ 0; omega) (by show _ ≤ 0; omega) ?_
    exact ⟨rfl, N0, rfl⟩
  · show own_Go p e below s _ _ _ (T.setTop (mkF m 0 #[rv t, iv (46 : Int32), iv (0 : Int32), iv (2 : Int32), .unset, .unset] []))
    show own_Go p e below s _ _ _ (T.setTop (mkF m 0 #[rv t, iv (46 : Int32), iv (0 : Int32), iv (2 : Int32), .unset, .unset] []))
    refine own_go (fun _ k => XS.iloadN X0.here hx rfl (hb hby d24_0) rfl (XS.i2b X0.here hx rfl (hb hby d24_1) rfl k)) ?_
    show own_Go p e below s _ _ _ (T.setTop (mkF m 2 #[rv t, iv (46 : Int32), iv (0 : Int32), iv (2 : Int32), .unset, .unset] [(.int ((46 : Int32).toInt8.toInt32))]))
    rw [show ((46 : Int32).toInt8.toInt32) = (46 : Int32) from by decide]
    refine own_go (fun _ k => XS.istore X0.here hx rfl (hb hby d24_2) rfl (l' := #[rv t, iv (46 : Int32), iv (0 : Int32), iv (2 : Int32), iv (46 : Int32), .unset]) rfl (XS.iloadN X0.here hx rfl (hb hby d24_4) rfl (XS.istore X0.here hx rfl (hb hby d24_5) rfl (l' := #[rv t, iv (46 : Int32), iv (0 : Int32), iv (2 : Int32), iv (46 : Int32), iv (0 : Int32)]) rfl (XS.iload X0.here hx rfl (hb hby d24_7) rfl (XS.iloadN X0.here hx rfl (hb hby d24_9) rfl (XS.icmpNo X0.here hx rfl (hb hby d24_10) rfl (tlt (by decide : (0 : Int32) < (2 : Int32))).2.1 k)))))) ?_
    show own_Go p e below s _ _ _ (T.setTop (mkF m 13 #[rv t, iv (46 : Int32), iv (0 : Int32), iv (2 : Int32), iv (46 : Int32), iv (0 : Int32)] []))
    refine own_go (fun _ k => XS.aloadN X0.here hx rfl (hb hby d24_13) rfl rfl (XS.iload X0.here hx rfl (hb hby d24_14) rfl k)) ?_
    obtain ⟨cl9, Ar9, -, S9, -, P9, -⟩ := id (g3.keep K0 nin0)
    have hin9 : ¬ ((0 : Int32) < 0 ∨ cl9.slots.size ≤ ((0 : Int32)).toNatClampNeg) := inb_of S9 ⟨by decide, by decide⟩
    refine own_go (X0.baloadBytes hx (j := (0 : Int32)) (v := (.int x0)) (by rw [e0]; exact Ar9.1) (State.isArrayOf_alike hZ.alike Ar9.2.1) Ar9.2.2 hin9 (P9.at hin9 rfl) (g := (mkF m 16 #[rv t, iv (46 : Int32), iv (0 : Int32), iv (2 : Int32), iv (46 : Int32), iv (0 : Int32)] [(.int (0 : Int32)), (.ref t)])) rfl rfl (hb hby d24_16)) ?_
    refine own_go (fun _ k => XS.iload X0.here hx rfl (hb hby d24_17) rfl (XS.icmpYes X0.here hx rfl (pc0 := 19) (pc' := 25) rfl (hb hby d24_19) rfl (feq hgx0.2.2.1).2 (by decide) (by decide) (XS.iinc X0.here hx rfl (hb hby d24_25) rfl (l' := #[rv t, iv (46 : Int32), iv (0 : Int32), iv (2 : Int32), iv (46 : Int32), iv (1 : Int32)]) rfl (XS.goto X0.here hx rfl (pc0 := 28) (pc' := 7) rfl (hb hby d24_28) (by decide) (by decide) (XS.iload X0.here hx rfl (hb hby d24_7) rfl k))))) ?_
    show own_Go p e below s _ _ _ (T.setTop (mkF m 9 #[rv t, iv (46 : Int32), iv (0 : Int32), iv (2 : Int32), iv (46 : Int32), iv (1 : Int32)] [(.int (1 : Int32))]))
    refine own_go (fun _ k => XS.iloadN X0.here hx rfl (hb hby d24_9) rfl (XS.icmpNo X0.here hx rfl (hb hby d24_10) rfl (tlt (by decide : (1 : Int32) < (2 : Int32))).2.1 (XS.aloadN X0.here hx rfl (hb hby d24_13) rfl rfl (XS.iload X0.here hx rfl (hb hby d24_14) rfl k)))) ?_
    obtain ⟨cl10, Ar10, -, S10, -, P10, -⟩ := id (g3.keep K0 nin0)
    have hin10 : ¬ ((1 : Int32) < 0 ∨ cl10.slots.size ≤ ((1 : Int32)).toNatClampNeg) := inb_of S10 ⟨by decide, by decide⟩
    refine own_go (X0.baloadBytes hx (j := (1 : Int32)) (v := (.int x1)) (by rw [e0]; exact Ar10.1) (State.isArrayOf_alike hZ.alike Ar10.2.1) Ar10.2.2 hin10 (P10.at hin10 rfl) (g := (mkF m 16 #[rv t, iv (46 : Int32), iv (0 : Int32), iv (2 : Int32), iv (46 : Int32), iv (1 : Int32)] [(.int (1 : Int32)), (.ref t)])) rfl rfl (hb hby d24_16)) ?_
    refine own_go (fun _ k => XS.iload X0.here hx rfl (hb hby d24_17) rfl (XS.icmpYes X0.here hx rfl (pc0 := 19) (pc' := 25) rfl (hb hby d24_19) rfl (feq hgx1.2.2.1).2 (by decide) (by decide) (XS.iinc X0.here hx rfl (hb hby d24_25) rfl (l' := #[rv t, iv (46 : Int32), iv (0 : Int32), iv (2 : Int32), iv (46 : Int32), iv (2 : Int32)]) rfl k))) ?_
    show own_Go p e below s _ _ _ (T.setTop (mkF m 28 #[rv t, iv (46 : Int32), iv (0 : Int32), iv (2 : Int32), iv (46 : Int32), iv (2 : Int32)] []))
    refine own_go (fun _ k => XS.goto X0.here hx rfl (pc0 := 28) (pc' := 7) rfl (hb hby d24_28) (by decide) (by decide) (XS.iload X0.here hx rfl (hb hby d24_7) rfl (XS.iloadN X0.here hx rfl (hb hby d24_9) rfl (XS.icmpYes X0.here hx rfl (pc0 := 10) (pc' := 31) rfl (hb hby d24_10) rfl (flt (by decide : ¬ ((2 : Int32) < (2 : Int32)))).2.1 (by decide) (by decide) (XS.iconst X0.here hx rfl (hb hby d24_31) k))))) ?_
    show own_Go p e below s _ _ _ (T.setTop (mkF m 32 #[rv t, iv (46 : Int32), iv (0 : Int32), iv (2 : Int32), iv (46 : Int32), iv (2 : Int32)] [(.int (-1 : Int32))]))
    refine own_retI X0 hx hlk e0 hret (hb hby d24_32) (by show _ ≤ 0; omega) (by show _ ≤ 0; omega) ?_
    exact ⟨rfl, N0, rfl⟩
theorem d20_0 : decode jdk_43_method_22_code 0 = .ok (.iload_n 1, 1) := by decide +kernel
theorem d20_1 : decode jdk_43_method_22_code 1 = .ok (.invokestatic 88, 3) := by decide +kernel
theorem d20_4 : decode jdk_43_method_22_code 4 = .ok (.ifCond .ne 5, 3) := by decide +kernel
theorem d20_9 : decode jdk_43_method_22_code 9 = .ok (.iload_n 2, 1) := by decide +kernel
theorem d20_10 : decode jdk_43_method_22_code 10 = .ok (.iconst 0, 1) := by decide +kernel
theorem d20_11 : decode jdk_43_method_22_code 11 = .ok (.invokestatic 92, 3) := by decide +kernel
theorem d20_14 : decode jdk_43_method_22_code 14 = .ok (.istore_n 2, 1) := by decide +kernel
theorem d20_15 : decode jdk_43_method_22_code 15 = .ok (.iload_n 3, 1) := by decide +kernel
theorem d20_16 : decode jdk_43_method_22_code 16 = .ok (.aload_n 0, 1) := by decide +kernel
theorem d20_17 : decode jdk_43_method_22_code 17 = .ok (.arraylength, 1) := by decide +kernel
theorem d20_18 : decode jdk_43_method_22_code 18 = .ok (.invokestatic 38, 3) := by decide +kernel
theorem d20_21 : decode jdk_43_method_22_code 21 = .ok (.istore_n 3, 1) := by decide +kernel
theorem d20_22 : decode jdk_43_method_22_code 22 = .ok (.iload_n 2, 1) := by decide +kernel
theorem d20_23 : decode jdk_43_method_22_code 23 = .ok (.iload_n 3, 1) := by decide +kernel
theorem d20_24 : decode jdk_43_method_22_code 24 = .ok (.if_icmp .lt 5, 3) := by decide +kernel
theorem d20_29 : decode jdk_43_method_22_code 29 = .ok (.aload_n 0, 1) := by decide +kernel
theorem d20_30 : decode jdk_43_method_22_code 30 = .ok (.iload_n 1, 1) := by decide +kernel
theorem d20_31 : decode jdk_43_method_22_code 31 = .ok (.iload_n 2, 1) := by decide +kernel
theorem d20_32 : decode jdk_43_method_22_code 32 = .ok (.iload_n 3, 1) := by decide +kernel
theorem d20_33 : decode jdk_43_method_22_code 33 = .ok (.invokestatic 95, 3) := by decide +kernel
theorem d20_36 : decode jdk_43_method_22_code 36 = .ok (.ireturn, 1) := by decide +kernel
def Q_iolG (Z : State) (zc : Int32) (wsf : Value) (t : Addr) (nz : Int32) (kt : ClassId) (vl : List Value) (rd : Int32) (h0 : Heap) (v : Option Value) (h : Heap) (L : List Loc) : Prop := (v = some (.int rd) ∧ Fr Z.heap.size L ∧ h = h0)
theorem ef_iolG (m : MethodId) (x0 : Addr) (x3 : Int32) : entryFrame m #[(.ref x0), (.int (46 : Int32)), (.int (0 : Int32)), (.int x3)] 4 = mkF m 0 #[rv x0, iv (46 : Int32), iv (0 : Int32), iv x3] [] := by first | (simp [entryFrame, mkF, argsToLocals, Value.category]; done) | rfl
set_option maxRecDepth 65536 in
set_option maxHeartbeats 40000000 in
theorem rm_iolG (l : Launch) (Z : State) (a0 : Array Value) (hw : own_W Z a0) {zc : Int32} {wsf : Value} (hO : own_Olds Z zc wsf) (ws : List Jvm.Cond) (t : Addr) (nz : Int32) (kt : ClassId) (vl : List Value) (rd : Int32) (h0 : Heap) (O0 : Ext Z.heap h0) (fp0 : Arv Z h0 t kt .byte nz vl (.int (0 : Int32))) (fp1 : own_Dot Z h0 t nz rd) (h0n : (0 : Int32) < nz) :
    own_MF l Z h0 own_y17 jdk_43_method_22_code 4 (some .int) ({ frames := 1, cells := 0, slots := 0, locals := 17 } : Room) #[(.ref t), (.int (46 : Int32)), (.int (0 : Int32)), (.int nz)] (Q_iolG Z zc wsf t nz kt vl rd h0) ws := by
  refine own_met (Q := (Q_iolG Z zc wsf t nz kt vl rd h0)) _ _ (plainFor_of_name own_pn_3) ?_
  intro p e s m below meth c T X0 hx hby hml hret hlk hZ hown hnm e0
  replace hown : s.vm.findClass "java/lang/StringLatin1" = some m.cls := hown
  replace hnm : meth.name = "indexOf" := hnm
  have hml : c.maxLocals = 4 := hml
  obtain ⟨oCS, oCz, oSF, r_wsf⟩ := id hO
  have N0 := Fr.nil Z.heap.size
  have K0 := Keep.refl h0 []
  refine own_go (fun _ k => castTop (ef_iolG m t nz) k) ?_
  show own_Go p e below s _ _ _ (T.setTop (mkF m 0 #[rv t, iv (46 : Int32), iv (0 : Int32), iv nz] []))
  refine own_go (fun _ k => XS.iloadN X0.here hx rfl (hb hby d20_0) rfl k) ?_
  obtain ⟨v1, T1, L1, X1, hQ1, st1⟩ := own_callS (y := own_y13) X0 hx hZ hown (ow101 hw) (ow102 hw) (ow99 hw) (ow103 hw) (rm_canE46 l Z a0 hw hO []  h0 O0) 0 0 0 (by show _ ≤ 0; omega) (by show _ ≤ 0; omega) e0 (g := (mkF m 1 #[rv t, iv (46 : Int32), iv (0 : Int32), iv nz] [(.int (46 : Int32))])) rfl (by rw [hml]; rfl) [(.int (46 : Int32))] [] (lenOf own_pd_9 rfl) rfl rfl (hb hby d20_1)
  obtain ⟨rfl, Nc3, Kc2⟩ := hQ1
  refine own_go st1 ?_
  clear st1 X0 e0
  replace N0 := Fr.app N0 Nc3
  clear Nc3
  refine own_go (fun _ k => XS.ifYes X1.here hx rfl (pc0 := 4) (pc' := 9) rfl (hb hby d20_4) rfl ((if0 _ _).trans (feq (by decide : ¬ ((1 : Int32) = (0 : Int32)))).2) (by decide) (by decide) (XS.iloadN X1.here hx rfl (hb hby d20_9) rfl (XS.iconst X1.here hx rfl (hb hby d20_10) k))) ?_
  obtain ⟨v4, T4, L4, X4, hQ4, st4⟩ := own_callS (y := own_y14) X1 hx hZ hown (ow104 hw) (ow105 hw) (ow106 hw) (ow107 hw) (rm_maxi l Z a0 hw hO [] (0 : Int32) (0 : Int32) h0 O0) 0 0 0 (by show _ ≤ 0; omega) (by show _ ≤ 0; omega) Kc2 (g := (mkF m 11 #[rv t, iv (46 : Int32), iv (0 : Int32), iv nz] [(.int (0 : Int32)), (.int (0 : Int32))])) rfl (by rw [hml]; rfl) [(.int (0 : Int32)), (.int (0 : Int32))] [] (lenOf own_pd_10 rfl) rfl rfl (hb hby d20_11)
  rcases hQ4 with hQ4 | hQ4
  · obtain ⟨rfl, Nc7, hp5, Kc6⟩ := hQ4
    refine own_go st4 ?_
    clear st4 X1 Kc2
    replace N0 := Fr.app N0 Nc7
    clear Nc7
    exact absurd hp5 (by decide : ¬ ((0 : Int32) < (0 : Int32)))
  · obtain ⟨rfl, Nc10, hp8, Kc9⟩ := hQ4
    refine own_go st4 ?_
    clear st4 X1 Kc2
    replace N0 := Fr.app N0 Nc10
    clear Nc10
    show own_Go p e below s _ _ _ (T4.setTop (mkF m 14 #[rv t, iv (46 : Int32), iv (0 : Int32), iv nz] [(.int (0 : Int32))]))
    refine own_go (fun _ k => XS.istoreN X4.here hx rfl (hb hby d20_14) rfl (l' := #[rv t, iv (46 : Int32), iv (0 : Int32), iv nz]) rfl (XS.iloadN X4.here hx rfl (hb hby d20_15) rfl (XS.aloadN X4.here hx rfl (hb hby d20_16) rfl rfl k))) ?_
    show own_Go p e below s _ _ _ (T4.setTop (mkF m 17 #[rv t, iv (46 : Int32), iv (0 : Int32), iv nz] [(.ref t), (.int nz)]))
    obtain ⟨cl11, Ar11, -, S11, M11, -, -⟩ := id (fp0.keep K0 nin0)
    refine own_go (X4.arraylength hx (by rw [Kc9]; exact Ar11.1) (State.isArrayOf_alike hZ.alike Ar11.2.1) (g := (mkF m 17 #[rv t, iv (46 : Int32), iv (0 : Int32), iv nz] [(.ref t), (.int nz)])) rfl rfl (hb hby d20_17)) ?_
    rw [len_of S11 M11]
    obtain ⟨v12, T12, L12, X12, hQ12, st12⟩ := own_callS (y := own_y15) X4 hx hZ hown (ow108 hw) (ow109 hw) (ow106 hw) (ow110 hw) (rm_mini l Z a0 hw hO [] nz nz h0 O0) 0 0 0 (by show _ ≤ 0; omega) (by show _ ≤ 0; omega) Kc9 (g := (mkF m 18 #[rv t, iv (46 : Int32), iv (0 : Int32), iv nz] [(.int nz), (.int nz)])) rfl (by rw [hml]; rfl) [(.int nz), (.int nz)] [] (lenOf own_pd_10 rfl) rfl rfl (hb hby d20_18)
    rcases hQ12 with hQ12 | hQ12
    · obtain ⟨rfl, Nc15, hp13, Kc14⟩ := hQ12
      refine own_go st12 ?_
      clear st12 X4 Kc9
      replace N0 := Fr.app N0 Nc15
      clear Nc15
      exact absurd hp13 (fun q => Int32.lt_irrefl q)
    · obtain ⟨rfl, Nc18, hp16, Kc17⟩ := hQ12
      refine own_go st12 ?_
      clear st12 X4 Kc9
      replace N0 := Fr.app N0 Nc18
      clear Nc18
      show own_Go p e below s _ _ _ (T12.setTop (mkF m 21 #[rv t, iv (46 : Int32), iv (0 : Int32), iv nz] [(.int nz)]))
      refine own_go (fun _ k => XS.istoreN X12.here hx rfl (hb hby d20_21) rfl (l' := #[rv t, iv (46 : Int32), iv (0 : Int32), iv nz]) rfl (XS.iloadN X12.here hx rfl (hb hby d20_22) rfl (XS.iloadN X12.here hx rfl (hb hby d20_23) rfl (XS.icmpYes X12.here hx rfl (pc0 := 24) (pc' := 29) rfl (hb hby d20_24) rfl (tlt h0n).1 (by decide) (by decide) (XS.aloadN X12.here hx rfl (hb hby d20_29) rfl rfl (XS.iloadN X12.here hx rfl (hb hby d20_30) rfl (XS.iloadN X12.here hx rfl (hb hby d20_31) rfl (XS.iloadN X12.here hx rfl (hb hby d20_32) rfl k)))))))) ?_
      show own_Go p e below s _ _ _ (T12.setTop (mkF m 33 #[rv t, iv (46 : Int32), iv (0 : Int32), iv nz] [(.int nz), (.int (0 : Int32)), (.int (46 : Int32)), (.ref t)]))
      obtain ⟨v19, T19, L19, X19, hQ19, st19⟩ := own_callS (y := own_y16) X12 hx hZ hown (ow111 hw) (ow112 hw) (ow99 hw) (ow113 hw) (rm_iocG l Z a0 hw hO [] t nz rd h0 O0 (own_DotK fp1 K0)) 0 0 0 (by show _ ≤ 0; omega) (by show _ ≤ 0; omega) Kc17 (g := (mkF m 33 #[rv t, iv (46 : Int32), iv (0 : Int32), iv nz] [(.int nz), (.int (0 : Int32)), (.int (46 : Int32)), (.ref t)])) rfl (by rw [hml]; rfl) [(.ref t), (.int (46 : Int32)), (.int (0 : Int32)), (.int nz)] [] (lenOf own_pd_11 rfl) rfl rfl (hb hby d20_33)
      obtain ⟨rfl, Nc21, Kc20⟩ := hQ19
      refine own_go st19 ?_
      clear st19 X12 Kc17
      replace N0 := Fr.app N0 Nc21
      clear Nc21
      show own_Go p e below s _ _ _ (T19.setTop (mkF m 36 #[rv t, iv (46 : Int32), iv (0 : Int32), iv nz] [(.int rd)]))
      refine own_retI X19 hx hlk Kc20 hret (hb hby d20_36) (by show _ ≤ 0; omega) (by show _ ≤ 0; omega) ?_
      exact ⟨rfl, N0, rfl⟩
theorem d18_0 : decode jdk_42_method_80_code 0 = .ok (.aload_n 0, 1) := by decide +kernel
theorem d18_1 : decode jdk_42_method_80_code 1 = .ok (.invokevirtual 492, 3) := by decide +kernel
theorem d18_4 : decode jdk_42_method_80_code 4 = .ok (.ifCond .eq 19, 3) := by decide +kernel
theorem d18_7 : decode jdk_42_method_80_code 7 = .ok (.aload_n 0, 1) := by decide +kernel
theorem d18_8 : decode jdk_42_method_80_code 8 = .ok (.getfield 9, 3) := by decide +kernel
theorem d18_11 : decode jdk_42_method_80_code 11 = .ok (.iload_n 1, 1) := by decide +kernel
theorem d18_12 : decode jdk_42_method_80_code 12 = .ok (.iload_n 2, 1) := by decide +kernel
theorem d18_13 : decode jdk_42_method_80_code 13 = .ok (.aload_n 0, 1) := by decide +kernel
theorem d18_14 : decode jdk_42_method_80_code 14 = .ok (.invokevirtual 505, 3) := by decide +kernel
theorem d18_17 : decode jdk_42_method_80_code 17 = .ok (.invokestatic 637, 3) := by decide +kernel
theorem d18_20 : decode jdk_42_method_80_code 20 = .ok (.goto 16, 3) := by decide +kernel
theorem d18_36 : decode jdk_42_method_80_code 36 = .ok (.ireturn, 1) := by decide +kernel
def Q_io2G (Z : State) (zc : Int32) (wsf : Value) (a1 : Addr) (t : Addr) (kt : ClassId) (nz : Int32) (vl : List Value) (rd : Int32) (h0 : Heap) (v : Option Value) (h : Heap) (L : List Loc) : Prop := (v = some (.int rd) ∧ Fr Z.heap.size L ∧ h = h0)
theorem ef_io2G (m : MethodId) (x0 : Addr) : entryFrame m #[(.ref x0), (.int (46 : Int32)), (.int (0 : Int32))] 3 = mkF m 0 #[rv x0, iv (46 : Int32), iv (0 : Int32)] [] := by first | (simp [entryFrame, mkF, argsToLocals, Value.category]; done) | rfl
set_option maxRecDepth 65536 in
set_option maxHeartbeats 40000000 in
theorem rm_io2G (l : Launch) (Z : State) (a0 : Array Value) (hw : own_W Z a0) {zc : Int32} {wsf : Value} (hO : own_Olds Z zc wsf) (ws : List Jvm.Cond) (a1 : Addr) (t : Addr) (kt : ClassId) (nz : Int32) (vl : List Value) (rd : Int32) (h0 : Heap) (O0 : Ext Z.heap h0) (fp0 : Exa Z h0 a1 "java/lang/String") (fp1 : Fld Z h0 a1 "java/lang/String" "value" "[B" (.ref t)) (fp2 : Fld Z h0 a1 "java/lang/String" "coder" "B" (.int (0 : Int32))) (fp3 : Arv Z h0 t kt .byte nz vl (.int (0 : Int32))) (fp4 : own_Dot Z h0 t nz rd) (h0n : (0 : Int32) < nz) :
    own_MF l Z h0 own_y18 jdk_42_method_80_code 3 (some .int) ({ frames := 2, cells := 0, slots := 0, locals := 32 } : Room) #[(.ref a1), (.int (46 : Int32)), (.int (0 : Int32))] (Q_io2G Z zc wsf a1 t kt nz vl rd h0) ws := by
  refine own_met (Q := (Q_io2G Z zc wsf a1 t kt nz vl rd h0)) _ _ (plainFor_of_name own_pn_0) ?_
  intro p e s m below meth c T X0 hx hby hml hret hlk hZ hown hnm e0
  replace hown : s.vm.findClass "java/lang/String" = some m.cls := hown
  replace hnm : meth.name = "indexOf" := hnm
  have hml : c.maxLocals = 3 := hml
  obtain ⟨oCS, oCz, oSF, r_wsf⟩ := id hO
  have N0 := Fr.nil Z.heap.size
  have K0 := Keep.refl h0 []
  refine own_go (fun _ k => castTop (ef_io2G m a1) k) ?_
  show own_Go p e below s _ _ _ (T.setTop (mkF m 0 #[rv a1, iv (46 : Int32), iv (0 : Int32)] []))
  refine own_go (fun _ k => XS.aloadN X0.here hx rfl (hb hby d18_0) rfl rfl k) ?_
  obtain ⟨v1, T1, L1, X1, hQ1, st1⟩ := own_callV (y := own_y5) (z := own_y5) X0 hx hZ hown (ow92 hw) (ow93 hw) (notFace_of_selects (args := #[]) (mvT hZ (ow95 hw))) (ow95 hw) (ow94 hw) (ow7 hw) (ow96 hw) (rm_isLat l Z a0 hw hO [] a1 h0 O0 (fp2.keep K0 nin0)) 0 0 0 (by show _ ≤ 0; omega) (by show _ ≤ 0; omega) e0 (fp0.keep K0) (g := (mkF m 1 #[rv a1, iv (46 : Int32), iv (0 : Int32)] [(.ref a1)])) rfl (by rw [hml]; rfl) [] [] (lenOf own_pd_4 rfl) rfl rfl (hb hby d18_1)
  obtain ⟨rfl, Nc3, Kc2⟩ := hQ1
  refine own_go st1 ?_
  clear st1 X0 e0
  replace N0 := Fr.app N0 Nc3
  clear Nc3
  refine own_go (fun _ k => XS.ifNo X1.here hx rfl (hb hby d18_4) rfl ((if0 _ _).trans (feq (by decide : ¬ ((1 : Int32) = (0 : Int32)))).1) (XS.aloadN X1.here hx rfl (hb hby d18_7) rfl rfl k)) ?_
  obtain ⟨T4, X4, e4, st4⟩ := getF X1 hx hZ hown (host := "") (Or.inl (ow33 hw)) Via.refl Kc2 (fp1.keep K0 nin0) (g := (mkF m 8 #[rv a1, iv (46 : Int32), iv (0 : Int32)] [(.ref a1)])) rfl rfl (hb hby d18_8)
  refine own_go st4 ?_
  clear st4 X1 Kc2
  refine own_go (fun _ k => XS.iloadN X4.here hx rfl (hb hby d18_11) rfl (XS.iloadN X4.here hx rfl (hb hby d18_12) rfl (XS.aloadN X4.here hx rfl (hb hby d18_13) rfl rfl k))) ?_
  show own_Go p e below s _ _ _ (T4.setTop (mkF m 14 #[rv a1, iv (46 : Int32), iv (0 : Int32)] [(.ref a1), (.int (0 : Int32)), (.int (46 : Int32)), (.ref t)]))
  obtain ⟨v5, T5, L5, X5, hQ5, st5⟩ := own_callV (y := own_y4) (z := own_y4) X4 hx hZ hown (ow68 hw) (ow69 hw) (notFace_of_selects (args := #[]) (mvT hZ (ow71 hw))) (ow71 hw) (ow70 hw) (ow7 hw) (ow72 hw) (rm_slenG l Z a0 hw hO [] a1 t kt nz (vl : List Value) h0 O0 (fp0.keep K0) (fp1.keep K0 nin0) (fp2.keep K0 nin0) (fp3.keep K0 nin0)) 3 0 0 (by show _ ≤ 0; omega) (by show _ ≤ 0; omega) e4 (fp0.keep K0) (g := (mkF m 14 #[rv a1, iv (46 : Int32), iv (0 : Int32)] [(.ref a1), (.int (0 : Int32)), (.int (46 : Int32)), (.ref t)])) rfl (by rw [hml]; rfl) [] [(.int (0 : Int32)), (.int (46 : Int32)), (.ref t)] (lenOf own_pd_6 rfl) rfl rfl (hb hby d18_14)
  obtain ⟨rfl, Nc7, Kc6⟩ := hQ5
  refine own_go st5 ?_
  clear st5 X4 e4
  replace N0 := Fr.app N0 Nc7
  clear Nc7
  obtain ⟨v8, T8, L8, X8, hQ8, st8⟩ := own_callS (y := own_y17) X5 hx hZ hown (ow97 hw) (ow98 hw) (ow99 hw) (ow100 hw) (rm_iolG l Z a0 hw hO [] t nz kt (vl : List Value) rd h0 O0 (fp3.keep K0 nin0) (own_DotK fp4 K0) h0n) 0 0 0 (by show _ ≤ 0; omega) (by show _ ≤ 0; omega) Kc6 (g := (mkF m 17 #[rv a1, iv (46 : Int32), iv (0 : Int32)] [(.int nz), (.int (0 : Int32)), (.int (46 : Int32)), (.ref t)])) rfl (by rw [hml]; rfl) [(.ref t), (.int (46 : Int32)), (.int (0 : Int32)), (.int nz)] [] (lenOf own_pd_11 rfl) rfl rfl (hb hby d18_17)
  obtain ⟨rfl, Nc10, Kc9⟩ := hQ8
  refine own_go st8 ?_
  clear st8 X5 Kc6
  replace N0 := Fr.app N0 Nc10
  clear Nc10
  refine own_go (fun _ k => XS.goto X8.here hx rfl (pc0 := 20) (pc' := 36) rfl (hb hby d18_20) (by decide) (by decide) k) ?_
  show own_Go p e below s _ _ _ (T8.setTop (mkF m 36 #[rv a1, iv (46 : Int32), iv (0 : Int32)] [(.int rd)]))
  refine own_retI X8 hx hlk Kc9 hret (hb hby d18_36) (by show _ ≤ 0; omega) (by show _ ≤ 0; omega) ?_
  exact ⟨rfl, N0, rfl⟩
theorem d17_0 : decode jdk_42_method_79_code 0 = .ok (.aload_n 0, 1) := by decide +kernel
theorem d17_1 : decode jdk_42_method_79_code 1 = .ok (.iload_n 1, 1) := by decide +kernel
theorem d17_2 : decode jdk_42_method_79_code 2 = .ok (.iconst 0, 1) := by decide +kernel
theorem d17_3 : decode jdk_42_method_79_code 3 = .ok (.invokevirtual 633, 3) := by decide +kernel
theorem d17_6 : decode jdk_42_method_79_code 6 = .ok (.ireturn, 1) := by decide +kernel
def Q_io1G (Z : State) (zc : Int32) (wsf : Value) (a1 : Addr) (t : Addr) (kt : ClassId) (nz : Int32) (vl : List Value) (rd : Int32) (h0 : Heap) (v : Option Value) (h : Heap) (L : List Loc) : Prop := (v = some (.int rd) ∧ Fr Z.heap.size L ∧ h = h0)
theorem ef_io1G (m : MethodId) (x0 : Addr) : entryFrame m #[(.ref x0), (.int (46 : Int32))] 2 = mkF m 0 #[rv x0, iv (46 : Int32)] [] := by first | (simp [entryFrame, mkF, argsToLocals, Value.category]; done) | rfl
set_option maxRecDepth 65536 in
set_option maxHeartbeats 40000000 in
theorem rm_io1G (l : Launch) (Z : State) (a0 : Array Value) (hw : own_W Z a0) {zc : Int32} {wsf : Value} (hO : own_Olds Z zc wsf) (ws : List Jvm.Cond) (a1 : Addr) (t : Addr) (kt : ClassId) (nz : Int32) (vl : List Value) (rd : Int32) (h0 : Heap) (O0 : Ext Z.heap h0) (fp0 : Exa Z h0 a1 "java/lang/String") (fp1 : Fld Z h0 a1 "java/lang/String" "value" "[B" (.ref t)) (fp2 : Fld Z h0 a1 "java/lang/String" "coder" "B" (.int (0 : Int32))) (fp3 : Arv Z h0 t kt .byte nz vl (.int (0 : Int32))) (fp4 : own_Dot Z h0 t nz rd) (h0n : (0 : Int32) < nz) :
    own_MF l Z h0 own_y19 jdk_42_method_79_code 2 (some .int) ({ frames := 3, cells := 0, slots := 0, locals := 46 } : Room) #[(.ref a1), (.int (46 : Int32))] (Q_io1G Z zc wsf a1 t kt nz vl rd h0) ws := by
  refine own_met (Q := (Q_io1G Z zc wsf a1 t kt nz vl rd h0)) _ _ (plainFor_of_name own_pn_0) ?_
  intro p e s m below meth c T X0 hx hby hml hret hlk hZ hown hnm e0
  replace hown : s.vm.findClass "java/lang/String" = some m.cls := hown
  replace hnm : meth.name = "indexOf" := hnm
  have hml : c.maxLocals = 2 := hml
  obtain ⟨oCS, oCz, oSF, r_wsf⟩ := id hO
  have N0 := Fr.nil Z.heap.size
  have K0 := Keep.refl h0 []
  refine own_go (fun _ k => castTop (ef_io1G m a1) k) ?_
  show own_Go p e below s _ _ _ (T.setTop (mkF m 0 #[rv a1, iv (46 : Int32)] []))
  refine own_go (fun _ k => XS.aloadN X0.here hx rfl (hb hby d17_0) rfl rfl (XS.iloadN X0.here hx rfl (hb hby d17_1) rfl (XS.iconst X0.here hx rfl (hb hby d17_2) k))) ?_
  obtain ⟨v1, T1, L1, X1, hQ1, st1⟩ := own_callV (y := own_y18) (z := own_y18) X0 hx hZ hown (ow87 hw) (ow88 hw) (notFace_of_selects (args := #[]) (mvT hZ (ow90 hw))) (ow90 hw) (ow89 hw) (ow7 hw) (ow91 hw) (rm_io2G l Z a0 hw hO [] a1 t kt nz (vl : List Value) rd h0 O0 (fp0.keep K0) (fp1.keep K0 nin0) (fp2.keep K0 nin0) (fp3.keep K0 nin0) (own_DotK fp4 K0) h0n) 0 0 0 (by show _ ≤ 0; omega) (by show _ ≤ 0; omega) e0 (fp0.keep K0) (g := (mkF m 3 #[rv a1, iv (46 : Int32)] [(.int (0 : Int32)), (.int (46 : Int32)), (.ref a1)])) rfl (by rw [hml]; rfl) [(.int (46 : Int32)), (.int (0 : Int32))] [] (lenOf own_pd_10 rfl) rfl rfl (hb hby d17_3)
  obtain ⟨rfl, Nc3, Kc2⟩ := hQ1
  refine own_go st1 ?_
  clear st1 X0 e0
  replace N0 := Fr.app N0 Nc3
  clear Nc3
  show own_Go p e below s _ _ _ (T1.setTop (mkF m 6 #[rv a1, iv (46 : Int32)] [(.int rd)]))
  refine own_retI X1 hx hlk Kc2 hret (hb hby d17_6) (by show _ ≤ 0; omega) (by show _ ≤ 0; omega) ?_
  exact ⟨rfl, N0, rfl⟩
theorem d25_0 : decode prog_69_method_6_code 0 = .ok (.iload_n 1, 1) := by decide +kernel
theorem d25_1 : decode prog_69_method_6_code 1 = .ok (.istore_n 3, 1) := by decide +kernel
theorem d25_2 : decode prog_69_method_6_code 2 = .ok (.iload_n 3, 1) := by decide +kernel
theorem d25_3 : decode prog_69_method_6_code 3 = .ok (.iload_n 2, 1) := by decide +kernel
theorem d25_4 : decode prog_69_method_6_code 4 = .ok (.if_icmp .ge 32, 3) := by decide +kernel
theorem d25_7 : decode prog_69_method_6_code 7 = .ok (.aload_n 0, 1) := by decide +kernel
theorem d25_8 : decode prog_69_method_6_code 8 = .ok (.iload_n 3, 1) := by decide +kernel
theorem d25_9 : decode prog_69_method_6_code 9 = .ok (.invokevirtual 115, 3) := by decide +kernel
theorem d25_12 : decode prog_69_method_6_code 12 = .ok (.istore 4, 2) := by decide +kernel
theorem d25_14 : decode prog_69_method_6_code 14 = .ok (.iload 4, 2) := by decide +kernel
theorem d25_16 : decode prog_69_method_6_code 16 = .ok (.bipush 48, 2) := by decide +kernel
theorem d25_18 : decode prog_69_method_6_code 18 = .ok (.if_icmp .lt 10, 3) := by decide +kernel
theorem d25_21 : decode prog_69_method_6_code 21 = .ok (.iload 4, 2) := by decide +kernel
theorem d25_23 : decode prog_69_method_6_code 23 = .ok (.bipush 57, 2) := by decide +kernel
theorem d25_25 : decode prog_69_method_6_code 25 = .ok (.if_icmp .le 5, 3) := by decide +kernel
theorem d25_30 : decode prog_69_method_6_code 30 = .ok (.iinc 3 1, 3) := by decide +kernel
theorem d25_33 : decode prog_69_method_6_code 33 = .ok (.goto (-31), 3) := by decide +kernel
theorem d25_36 : decode prog_69_method_6_code 36 = .ok (.iload_n 1, 1) := by decide +kernel
theorem d25_37 : decode prog_69_method_6_code 37 = .ok (.iload_n 2, 1) := by decide +kernel
theorem d25_38 : decode prog_69_method_6_code 38 = .ok (.if_icmp .ge 7, 3) := by decide +kernel
theorem d25_41 : decode prog_69_method_6_code 41 = .ok (.iconst 1, 1) := by decide +kernel
theorem d25_42 : decode prog_69_method_6_code 42 = .ok (.goto 4, 3) := by decide +kernel
theorem d25_46 : decode prog_69_method_6_code 46 = .ok (.ireturn, 1) := by decide +kernel
def Q_dig_4_1_2 (Z : State) (zc : Int32) (wsf : Value) (a1 : Addr) (t : Addr) (kt : ClassId) (x0 : Int32) (x1 : Int32) (x2 : Int32) (x3 : Int32) (h0 : Heap) (v : Option Value) (h : Heap) (L : List Loc) : Prop := (v = some (.int (1 : Int32)) ∧ Fr Z.heap.size L ∧ h = h0)
theorem ef_dig_4_1_2 (m : MethodId) (x0 : Addr) : entryFrame m #[(.ref x0), (.int (1 : Int32)), (.int (2 : Int32))] 5 = mkF m 0 #[rv x0, iv (1 : Int32), iv (2 : Int32), .unset, .unset] [] := by first | (simp [entryFrame, mkF, argsToLocals, Value.category]; done) | rfl
set_option maxRecDepth 65536 in
set_option maxHeartbeats 40000000 in
theorem rm_dig_4_1_2 (l : Launch) (Z : State) (a0 : Array Value) (hw : own_W Z a0) {zc : Int32} {wsf : Value} (hO : own_Olds Z zc wsf) (ws : List Jvm.Cond) (a1 : Addr) (t : Addr) (kt : ClassId) (x0 : Int32) (x1 : Int32) (x2 : Int32) (x3 : Int32) (h0 : Heap) (O0 : Ext Z.heap h0) (fp0 : Exa Z h0 a1 "java/lang/String") (fp1 : Fld Z h0 a1 "java/lang/String" "value" "[B" (.ref t)) (fp2 : Fld Z h0 a1 "java/lang/String" "coder" "B" (.int (0 : Int32))) (fp3 : Arv Z h0 t kt .byte (4 : Int32) [(.int x0), (.int x1), (.int x2), (.int x3)] (.int (0 : Int32))) (hd1 : own_Dg x1) :
    own_MF l Z h0 own_y20 prog_69_method_6_code 5 (some .boolean) ({ frames := 4, cells := 0, slots := 0, locals := 53 } : Room) #[(.ref a1), (.int (1 : Int32)), (.int (2 : Int32))] (Q_dig_4_1_2 Z zc wsf a1 t kt x0 x1 x2 x3 h0) ws := by
  refine own_met (Q := (Q_dig_4_1_2 Z zc wsf a1 t kt x0 x1 x2 x3 h0)) _ _ (plainFor_of_name own_pn_5) ?_
  intro p e s m below meth c T X0 hx hby hml hret hlk hZ hown hnm e0
  replace hown : s.vm.findClass "com/example/ibex/ibex/model/Constant" = some m.cls := hown
  replace hnm : meth.name = "digits" := hnm
  have hml : c.maxLocals = 5 := hml
  obtain ⟨oCS, oCz, oSF, r_wsf⟩ := id hO
  have N0 := Fr.nil Z.heap.size
  have K0 := Keep.refl h0 []
  refine own_go (fun _ k => castTop (ef_dig_4_1_2 m a1) k) ?_
  show own_Go p e below s _ _ _ (T.setTop (mkF m 0 #[rv a1, iv (1 : Int32), iv (2 : Int32), .unset, .unset] []))
  refine own_go (fun _ k => XS.iloadN X0.here hx rfl (hb hby d25_0) rfl (XS.istoreN X0.here hx rfl (hb hby d25_1) rfl (l' := #[rv a1, iv (1 : Int32), iv (2 : Int32), iv (1 : Int32), .unset]) rfl (XS.iloadN X0.here hx rfl (hb hby d25_2) rfl (XS.iloadN X0.here hx rfl (hb hby d25_3) rfl (XS.icmpNo X0.here hx rfl (hb hby d25_4) rfl (tlt (by decide : (1 : Int32) < (2 : Int32))).2.1 (XS.aloadN X0.here hx rfl (hb hby d25_7) rfl rfl (XS.iloadN X0.here hx rfl (hb hby d25_8) rfl k))))))) ?_
  obtain ⟨v1, T1, L1, X1, hQ1, st1⟩ := own_callV (y := own_y9) (z := own_y9) X0 hx hZ hown (ow118 hw) (ow119 hw) (notFace_of_selects (args := #[]) (mvT hZ (ow121 hw))) (ow121 hw) (ow120 hw) (ow7 hw) (ow122 hw) (rm_ch_1 l Z a0 hw hO [] a1 t kt (4 : Int32) ([(.int x2), (.int x3)] : List Value) x0 x1 h0 O0 (fp0.keep K0) (fp1.keep K0 nin0) (fp2.keep K0 nin0) (fp3.keep K0 nin0) (by decide : (1 : Int32) < (4 : Int32))) 0 0 0 (by show _ ≤ 0; omega) (by show _ ≤ 0; omega) e0 (fp0.keep K0) (g := (mkF m 9 #[rv a1, iv (1 : Int32), iv (2 : Int32), iv (1 : Int32), .unset] [(.int (1 : Int32)), (.ref a1)])) rfl (by rw [hml]; rfl) [(.int (1 : Int32))] [] (lenOf own_pd_12 rfl) rfl rfl (hb hby d25_9)
  obtain ⟨rfl, Nc3, Kc2⟩ := hQ1
  refine own_go st1 ?_
  clear st1 X0 e0
  replace N0 := Fr.app N0 Nc3
  clear Nc3
  show own_Go p e below s _ _ _ (T1.setTop (mkF m 12 #[rv a1, iv (1 : Int32), iv (2 : Int32), iv (1 : Int32), .unset] [(.int (x1 &&& (255 : Int32)))]))
  refine own_go (fun _ k => XS.istore X1.here hx rfl (hb hby d25_12) rfl (l' := #[rv a1, iv (1 : Int32), iv (2 : Int32), iv (1 : Int32), iv (x1 &&& (255 : Int32))]) rfl (XS.iload X1.here hx rfl (hb hby d25_14) rfl (XS.bipush X1.here hx rfl (hb hby d25_16) (XS.icmpNo X1.here hx rfl (hb hby d25_18) rfl (flt hd1.1).1 (XS.iload X1.here hx rfl (hb hby d25_21) rfl (XS.bipush X1.here hx rfl (hb hby d25_23) (XS.icmpYes X1.here hx rfl (pc0 := 25) (pc' := 30) rfl (hb hby d25_25) rfl (flt hd1.2.1).2.2.2 (by decide) (by decide) (XS.iinc X1.here hx rfl (hb hby d25_30) rfl (l' := #[rv a1, iv (1 : Int32), iv (2 : Int32), iv (2 : Int32), iv (x1 &&& (255 : Int32))]) rfl k)))))))) ?_
  show own_Go p e below s _ _ _ (T1.setTop (mkF m 33 #[rv a1, iv (1 : Int32), iv (2 : Int32), iv (2 : Int32), iv (x1 &&& (255 : Int32))] []))
  refine own_go (fun _ k => XS.goto X1.here hx rfl (pc0 := 33) (pc' := 2) rfl (hb hby d25_33) (by decide) (by decide) (XS.iloadN X1.here hx rfl (hb hby d25_2) rfl (XS.iloadN X1.here hx rfl (hb hby d25_3) rfl (XS.icmpYes X1.here hx rfl (pc0 := 4) (pc' := 36) rfl (hb hby d25_4) rfl (flt (by decide : ¬ ((2 : Int32) < (2 : Int32)))).2.1 (by decide) (by decide) (XS.iloadN X1.here hx rfl (hb hby d25_36) rfl (XS.iloadN X1.here hx rfl (hb hby d25_37) rfl (XS.icmpNo X1.here hx rfl (hb hby d25_38) rfl (tlt (by decide : (1 : Int32) < (2 : Int32))).2.1 (XS.iconst X1.here hx rfl (hb hby d25_41) k)))))))) ?_
  show own_Go p e below s _ _ _ (T1.setTop (mkF m 42 #[rv a1, iv (1 : Int32), iv (2 : Int32), iv (2 : Int32), iv (x1 &&& (255 : Int32))] [(.int (1 : Int32))]))
  refine own_go (fun _ k => XS.goto X1.here hx rfl (pc0 := 42) (pc' := 46) rfl (hb hby d25_42) (by decide) (by decide) k) ?_
  show own_Go p e below s _ _ _ (T1.setTop (mkF m 46 #[rv a1, iv (1 : Int32), iv (2 : Int32), iv (2 : Int32), iv (x1 &&& (255 : Int32))] [(.int (1 : Int32))]))
  refine own_retN X1 hx hlk Kc2 (t := .boolean) hret (by simp) (hb hby d25_46) (by show _ ≤ 0; omega) (by show _ ≤ 0; omega) ?_
  exact ⟨rfl, N0, rfl⟩
def Q_dig_4_3_4 (Z : State) (zc : Int32) (wsf : Value) (a1 : Addr) (t : Addr) (kt : ClassId) (x0 : Int32) (x1 : Int32) (x2 : Int32) (x3 : Int32) (h0 : Heap) (v : Option Value) (h : Heap) (L : List Loc) : Prop := (v = some (.int (1 : Int32)) ∧ Fr Z.heap.size L ∧ h = h0)
theorem ef_dig_4_3_4 (m : MethodId) (x0 : Addr) : entryFrame m #[(.ref x0), (.int (3 : Int32)), (.int (4 : Int32))] 5 = mkF m 0 #[rv x0, iv (3 : Int32), iv (4 : Int32), .unset, .unset] [] := by first | (simp [entryFrame, mkF, argsToLocals, Value.category]; done) | rfl
set_option maxRecDepth 65536 in
set_option maxHeartbeats 40000000 in
theorem rm_dig_4_3_4 (l : Launch) (Z : State) (a0 : Array Value) (hw : own_W Z a0) {zc : Int32} {wsf : Value} (hO : own_Olds Z zc wsf) (ws : List Jvm.Cond) (a1 : Addr) (t : Addr) (kt : ClassId) (x0 : Int32) (x1 : Int32) (x2 : Int32) (x3 : Int32) (h0 : Heap) (O0 : Ext Z.heap h0) (fp0 : Exa Z h0 a1 "java/lang/String") (fp1 : Fld Z h0 a1 "java/lang/String" "value" "[B" (.ref t)) (fp2 : Fld Z h0 a1 "java/lang/String" "coder" "B" (.int (0 : Int32))) (fp3 : Arv Z h0 t kt .byte (4 : Int32) [(.int x0), (.int x1), (.int x2), (.int x3)] (.int (0 : Int32))) (hd3 : own_Dg x3) :
    own_MF l Z h0 own_y20 prog_69_method_6_code 5 (some .boolean) ({ frames := 4, cells := 0, slots := 0, locals := 53 } : Room) #[(.ref a1), (.int (3 : Int32)), (.int (4 : Int32))] (Q_dig_4_3_4 Z zc wsf a1 t kt x0 x1 x2 x3 h0) ws := by
  refine own_met (Q := (Q_dig_4_3_4 Z zc wsf a1 t kt x0 x1 x2 x3 h0)) _ _ (plainFor_of_name own_pn_5) ?_
  intro p e s m below meth c T X0 hx hby hml hret hlk hZ hown hnm e0
  replace hown : s.vm.findClass "com/example/ibex/ibex/model/Constant" = some m.cls := hown
  replace hnm : meth.name = "digits" := hnm
  have hml : c.maxLocals = 5 := hml
  obtain ⟨oCS, oCz, oSF, r_wsf⟩ := id hO
  have N0 := Fr.nil Z.heap.size
  have K0 := Keep.refl h0 []
  refine own_go (fun _ k => castTop (ef_dig_4_3_4 m a1) k) ?_
  show own_Go p e below s _ _ _ (T.setTop (mkF m 0 #[rv a1, iv (3 : Int32), iv (4 : Int32), .unset, .unset] []))
  refine own_go (fun _ k => XS.iloadN X0.here hx rfl (hb hby d25_0) rfl (XS.istoreN X0.here hx rfl (hb hby d25_1) rfl (l' := #[rv a1, iv (3 : Int32), iv (4 : Int32), iv (3 : Int32), .unset]) rfl (XS.iloadN X0.here hx rfl (hb hby d25_2) rfl (XS.iloadN X0.here hx rfl (hb hby d25_3) rfl (XS.icmpNo X0.here hx rfl (hb hby d25_4) rfl (tlt (by decide : (3 : Int32) < (4 : Int32))).2.1 (XS.aloadN X0.here hx rfl (hb hby d25_7) rfl rfl (XS.iloadN X0.here hx rfl (hb hby d25_8) rfl k))))))) ?_
  obtain ⟨v1, T1, L1, X1, hQ1, st1⟩ := own_callV (y := own_y9) (z := own_y9) X0 hx hZ hown (ow118 hw) (ow119 hw) (notFace_of_selects (args := #[]) (mvT hZ (ow121 hw))) (ow121 hw) (ow120 hw) (ow7 hw) (ow122 hw) (rm_ch_3 l Z a0 hw hO [] a1 t kt (4 : Int32) ([] : List Value) x0 x1 x2 x3 h0 O0 (fp0.keep K0) (fp1.keep K0 nin0) (fp2.keep K0 nin0) (fp3.keep K0 nin0) (by decide : (3 : Int32) < (4 : Int32))) 0 0 0 (by show _ ≤ 0; omega) (by show _ ≤ 0; omega) e0 (fp0.keep K0) (g := (mkF m 9 #[rv a1, iv (3 : Int32), iv (4 : Int32), iv (3 : Int32), .unset] [(.int (3 : Int32)), (.ref a1)])) rfl (by rw [hml]; rfl) [(.int (3 : Int32))] [] (lenOf own_pd_12 rfl) rfl rfl (hb hby d25_9)
  obtain ⟨rfl, Nc3, Kc2⟩ := hQ1
  refine own_go st1 ?_
  clear st1 X0 e0
  replace N0 := Fr.app N0 Nc3
  clear Nc3
  show own_Go p e below s _ _ _ (T1.setTop (mkF m 12 #[rv a1, iv (3 : Int32), iv (4 : Int32), iv (3 : Int32), .unset] [(.int (x3 &&& (255 : Int32)))]))
  refine own_go (fun _ k => XS.istore X1.here hx rfl (hb hby d25_12) rfl (l' := #[rv a1, iv (3 : Int32), iv (4 : Int32), iv (3 : Int32), iv (x3 &&& (255 : Int32))]) rfl (XS.iload X1.here hx rfl (hb hby d25_14) rfl (XS.bipush X1.here hx rfl (hb hby d25_16) (XS.icmpNo X1.here hx rfl (hb hby d25_18) rfl (flt hd3.1).1 (XS.iload X1.here hx rfl (hb hby d25_21) rfl (XS.bipush X1.here hx rfl (hb hby d25_23) (XS.icmpYes X1.here hx rfl (pc0 := 25) (pc' := 30) rfl (hb hby d25_25) rfl (flt hd3.2.1).2.2.2 (by decide) (by decide) (XS.iinc X1.here hx rfl (hb hby d25_30) rfl (l' := #[rv a1, iv (3 : Int32), iv (4 : Int32), iv (4 : Int32), iv (x3 &&& (255 : Int32))]) rfl k)))))))) ?_
  show own_Go p e below s _ _ _ (T1.setTop (mkF m 33 #[rv a1, iv (3 : Int32), iv (4 : Int32), iv (4 : Int32), iv (x3 &&& (255 : Int32))] []))
  refine own_go (fun _ k => XS.goto X1.here hx rfl (pc0 := 33) (pc' := 2) rfl (hb hby d25_33) (by decide) (by decide) (XS.iloadN X1.here hx rfl (hb hby d25_2) rfl (XS.iloadN X1.here hx rfl (hb hby d25_3) rfl (XS.icmpYes X1.here hx rfl (pc0 := 4) (pc' := 36) rfl (hb hby d25_4) rfl (flt (by decide : ¬ ((4 : Int32) < (4 : Int32)))).2.1 (by decide) (by decide) (XS.iloadN X1.here hx rfl (hb hby d25_36) rfl (XS.iloadN X1.here hx rfl (hb hby d25_37) rfl (XS.icmpNo X1.here hx rfl (hb hby d25_38) rfl (tlt (by decide : (3 : Int32) < (4 : Int32))).2.1 (XS.iconst X1.here hx rfl (hb hby d25_41) k)))))))) ?_
  show own_Go p e below s _ _ _ (T1.setTop (mkF m 42 #[rv a1, iv (3 : Int32), iv (4 : Int32), iv (4 : Int32), iv (x3 &&& (255 : Int32))] [(.int (1 : Int32))]))
  refine own_go (fun _ k => XS.goto X1.here hx rfl (pc0 := 42) (pc' := 46) rfl (hb hby d25_42) (by decide) (by decide) k) ?_
  show own_Go p e below s _ _ _ (T1.setTop (mkF m 46 #[rv a1, iv (3 : Int32), iv (4 : Int32), iv (4 : Int32), iv (x3 &&& (255 : Int32))] [(.int (1 : Int32))]))
  refine own_retN X1 hx hlk Kc2 (t := .boolean) hret (by simp) (hb hby d25_46) (by show _ ≤ 0; omega) (by show _ ≤ 0; omega) ?_
  exact ⟨rfl, N0, rfl⟩
def Q_dig_3_1_3 (Z : State) (zc : Int32) (wsf : Value) (a1 : Addr) (t : Addr) (kt : ClassId) (x0 : Int32) (x1 : Int32) (x2 : Int32) (h0 : Heap) (v : Option Value) (h : Heap) (L : List Loc) : Prop := (v = some (.int (1 : Int32)) ∧ Fr Z.heap.size L ∧ h = h0)
theorem ef_dig_3_1_3 (m : MethodId) (x0 : Addr) : entryFrame m #[(.ref x0), (.int (1 : Int32)), (.int (3 : Int32))] 5 = mkF m 0 #[rv x0, iv (1 : Int32), iv (3 : Int32), .unset, .unset] [] := by first | (simp [entryFrame, mkF, argsToLocals, Value.category]; done) | rfl
set_option maxRecDepth 65536 in
set_option maxHeartbeats 40000000 in
theorem rm_dig_3_1_3 (l : Launch) (Z : State) (a0 : Array Value) (hw : own_W Z a0) {zc : Int32} {wsf : Value} (hO : own_Olds Z zc wsf) (ws : List Jvm.Cond) (a1 : Addr) (t : Addr) (kt : ClassId) (x0 : Int32) (x1 : Int32) (x2 : Int32) (h0 : Heap) (O0 : Ext Z.heap h0) (fp0 : Exa Z h0 a1 "java/lang/String") (fp1 : Fld Z h0 a1 "java/lang/String" "value" "[B" (.ref t)) (fp2 : Fld Z h0 a1 "java/lang/String" "coder" "B" (.int (0 : Int32))) (fp3 : Arv Z h0 t kt .byte (3 : Int32) [(.int x0), (.int x1), (.int x2)] (.int (0 : Int32))) (hd1 : own_Dg x1) (hd2 : own_Dg x2) :
    own_MF l Z h0 own_y20 prog_69_method_6_code 5 (some .boolean) ({ frames := 4, cells := 0, slots := 0, locals := 53 } : Room) #[(.ref a1), (.int (1 : Int32)), (.int (3 : Int32))] (Q_dig_3_1_3 Z zc wsf a1 t kt x0 x1 x2 h0) ws := by
  refine own_met (Q := (Q_dig_3_1_3 Z zc wsf a1 t kt x0 x1 x2 h0)) _ _ (plainFor_of_name own_pn_5) ?_
  intro p e s m below meth c T X0 hx hby hml hret hlk hZ hown hnm e0
  replace hown : s.vm.findClass "com/example/ibex/ibex/model/Constant" = some m.cls := hown
  replace hnm : meth.name = "digits" := hnm
  have hml : c.maxLocals = 5 := hml
  obtain ⟨oCS, oCz, oSF, r_wsf⟩ := id hO
  have N0 := Fr.nil Z.heap.size
  have K0 := Keep.refl h0 []
  refine own_go (fun _ k => castTop (ef_dig_3_1_3 m a1) k) ?_
  show own_Go p e below s _ _ _ (T.setTop (mkF m 0 #[rv a1, iv (1 : Int32), iv (3 : Int32), .unset, .unset] []))
  refine own_go (fun _ k => XS.iloadN X0.here hx rfl (hb hby d25_0) rfl (XS.istoreN X0.here hx rfl (hb hby d25_1) rfl (l' := #[rv a1, iv (1 : Int32), iv (3 : Int32), iv (1 : Int32), .unset]) rfl (XS.iloadN X0.here hx rfl (hb hby d25_2) rfl (XS.iloadN X0.here hx rfl (hb hby d25_3) rfl (XS.icmpNo X0.here hx rfl (hb hby d25_4) rfl (tlt (by decide : (1 : Int32) < (3 : Int32))).2.1 (XS.aloadN X0.here hx rfl (hb hby d25_7) rfl rfl (XS.iloadN X0.here hx rfl (hb hby d25_8) rfl k))))))) ?_
  obtain ⟨v1, T1, L1, X1, hQ1, st1⟩ := own_callV (y := own_y9) (z := own_y9) X0 hx hZ hown (ow118 hw) (ow119 hw) (notFace_of_selects (args := #[]) (mvT hZ (ow121 hw))) (ow121 hw) (ow120 hw) (ow7 hw) (ow122 hw) (rm_ch_1 l Z a0 hw hO [] a1 t kt (3 : Int32) ([(.int x2)] : List Value) x0 x1 h0 O0 (fp0.keep K0) (fp1.keep K0 nin0) (fp2.keep K0 nin0) (fp3.keep K0 nin0) (by decide : (1 : Int32) < (3 : Int32))) 0 0 0 (by show _ ≤ 0; omega) (by show _ ≤ 0; omega) e0 (fp0.keep K0) (g := (mkF m 9 #[rv a1, iv (1 : Int32), iv (3 : Int32), iv (1 : Int32), .unset] [(.int (1 : Int32)), (.ref a1)])) rfl (by rw [hml]; rfl) [(.int (1 : Int32))] [] (lenOf own_pd_12 rfl) rfl rfl (hb hby d25_9)
  obtain ⟨rfl, Nc3, Kc2⟩ := hQ1
  refine own_go st1 ?_
  clear st1 X0 e0
  replace N0 := Fr.app N0 Nc3
  clear Nc3
  show own_Go p e below s _ _ _ (T1.setTop (mkF m 12 #[rv a1, iv (1 : Int32), iv (3 : Int32), iv (1 : Int32), .unset] [(.int (x1 &&& (255 : Int32)))]))
  refine own_go (fun _ k => XS.istore X1.here hx rfl (hb hby d25_12) rfl (l' := #[rv a1, iv (1 : Int32), iv (3 : Int32), iv (1 : Int32), iv (x1 &&& (255 : Int32))]) rfl (XS.iload X1.here hx rfl (hb hby d25_14) rfl (XS.bipush X1.here hx rfl (hb hby d25_16) (XS.icmpNo X1.here hx rfl (hb hby d25_18) rfl (flt hd1.1).1 (XS.iload X1.here hx rfl (hb hby d25_21) rfl (XS.bipush X1.here hx rfl (hb hby d25_23) (XS.icmpYes X1.here hx rfl (pc0 := 25) (pc' := 30) rfl (hb hby d25_25) rfl (flt hd1.2.1).2.2.2 (by decide) (by decide) (XS.iinc X1.here hx rfl (hb hby d25_30) rfl (l' := #[rv a1, iv (1 : Int32), iv (3 : Int32), iv (2 : Int32), iv (x1 &&& (255 : Int32))]) rfl k)))))))) ?_
  show own_Go p e below s _ _ _ (T1.setTop (mkF m 33 #[rv a1, iv (1 : Int32), iv (3 : Int32), iv (2 : Int32), iv (x1 &&& (255 : Int32))] []))
  refine own_go (fun _ k => XS.goto X1.here hx rfl (pc0 := 33) (pc' := 2) rfl (hb hby d25_33) (by decide) (by decide) (XS.iloadN X1.here hx rfl (hb hby d25_2) rfl (XS.iloadN X1.here hx rfl (hb hby d25_3) rfl (XS.icmpNo X1.here hx rfl (hb hby d25_4) rfl (tlt (by decide : (2 : Int32) < (3 : Int32))).2.1 (XS.aloadN X1.here hx rfl (hb hby d25_7) rfl rfl (XS.iloadN X1.here hx rfl (hb hby d25_8) rfl k)))))) ?_
  obtain ⟨v4, T4, L4, X4, hQ4, st4⟩ := own_callV (y := own_y9) (z := own_y9) X1 hx hZ hown (ow118 hw) (ow119 hw) (notFace_of_selects (args := #[]) (mvT hZ (ow121 hw))) (ow121 hw) (ow120 hw) (ow7 hw) (ow122 hw) (rm_ch_2 l Z a0 hw hO [] a1 t kt (3 : Int32) ([] : List Value) x0 x1 x2 h0 O0 (fp0.keep K0) (fp1.keep K0 nin0) (fp2.keep K0 nin0) (fp3.keep K0 nin0) (by decide : (2 : Int32) < (3 : Int32))) 0 0 0 (by show _ ≤ 0; omega) (by show _ ≤ 0; omega) Kc2 (fp0.keep K0) (g := (mkF m 9 #[rv a1, iv (1 : Int32), iv (3 : Int32), iv (2 : Int32), iv (x1 &&& (255 : Int32))] [(.int (2 : Int32)), (.ref a1)])) rfl (by rw [hml]; rfl) [(.int (2 : Int32))] [] (lenOf own_pd_12 rfl) rfl rfl (hb hby d25_9)
  obtain ⟨rfl, Nc6, Kc5⟩ := hQ4
  refine own_go st4 ?_
  clear st4 X1 Kc2
  replace N0 := Fr.app N0 Nc6
  clear Nc6
  refine own_go (fun _ k => XS.istore X4.here hx rfl (hb hby d25_12) rfl (l' := #[rv a1, iv (1 : Int32), iv (3 : Int32), iv (2 : Int32), iv (x2 &&& (255 : Int32))]) rfl k) ?_
  show own_Go p e below s _ _ _ (T4.setTop (mkF m 14 #[rv a1, iv (1 : Int32), iv (3 : Int32), iv (2 : Int32), iv (x2 &&& (255 : Int32))] []))
  refine own_go (fun _ k => XS.iload X4.here hx rfl (hb hby d25_14) rfl (XS.bipush X4.here hx rfl (hb hby d25_16) (XS.icmpNo X4.here hx rfl (hb hby d25_18) rfl (flt hd2.1).1 (XS.iload X4.here hx rfl (hb hby d25_21) rfl (XS.bipush X4.here hx rfl (hb hby d25_23) (XS.icmpYes X4.here hx rfl (pc0 := 25) (pc' := 30) rfl (hb hby d25_25) rfl (flt hd2.2.1).2.2.2 (by decide) (by decide) (XS.iinc X4.here hx rfl (hb hby d25_30) rfl (l' := #[rv a1, iv (1 : Int32), iv (3 : Int32), iv (3 : Int32), iv (x2 &&& (255 : Int32))]) rfl (XS.goto X4.here hx rfl (pc0 := 33) (pc' := 2) rfl (hb hby d25_33) (by decide) (by decide) k)))))))) ?_
  show own_Go p e below s _ _ _ (T4.setTop (mkF m 2 #[rv a1, iv (1 : Int32), iv (3 : Int32), iv (3 : Int32), iv (x2 &&& (255 : Int32))] []))
  refine own_go (fun _ k => XS.iloadN X4.here hx rfl (hb hby d25_2) rfl (XS.iloadN X4.here hx rfl (hb hby d25_3) rfl (XS.icmpYes X4.here hx rfl (pc0 := 4) (pc' := 36) rfl (hb hby d25_4) rfl (flt (by decide : ¬ ((3 : Int32) < (3 : Int32)))).2.1 (by decide) (by decide) (XS.iloadN X4.here hx rfl (hb hby d25_36) rfl (XS.iloadN X4.here hx rfl (hb hby d25_37) rfl (XS.icmpNo X4.here hx rfl (hb hby d25_38) rfl (tlt (by decide : (1 : Int32) < (3 : Int32))).2.1 (XS.iconst X4.here hx rfl (hb hby d25_41) (XS.goto X4.here hx rfl (pc0 := 42) (pc' := 46) rfl (hb hby d25_42) (by decide) (by decide) k)))))))) ?_
  show own_Go p e below s _ _ _ (T4.setTop (mkF m 46 #[rv a1, iv (1 : Int32), iv (3 : Int32), iv (3 : Int32), iv (x2 &&& (255 : Int32))] [(.int (1 : Int32))]))
  refine own_retN X4 hx hlk Kc5 (t := .boolean) hret (by simp) (hb hby d25_46) (by show _ ≤ 0; omega) (by show _ ≤ 0; omega) ?_
  exact ⟨rfl, N0, rfl⟩
def Q_dig_3_0_1 (Z : State) (zc : Int32) (wsf : Value) (a1 : Addr) (t : Addr) (kt : ClassId) (x0 : Int32) (x1 : Int32) (x2 : Int32) (h0 : Heap) (v : Option Value) (h : Heap) (L : List Loc) : Prop := (v = some (.int (1 : Int32)) ∧ Fr Z.heap.size L ∧ h = h0)
theorem ef_dig_3_0_1 (m : MethodId) (x0 : Addr) : entryFrame m #[(.ref x0), (.int (0 : Int32)), (.int (1 : Int32))] 5 = mkF m 0 #[rv x0, iv (0 : Int32), iv (1 : Int32), .unset, .unset] [] := by first | (simp [entryFrame, mkF, argsToLocals, Value.category]; done) | rfl
set_option maxRecDepth 65536 in
set_option maxHeartbeats 40000000 in
theorem rm_dig_3_0_1 (l : Launch) (Z : State) (a0 : Array Value) (hw : own_W Z a0) {zc : Int32} {wsf : Value} (hO : own_Olds Z zc wsf) (ws : List Jvm.Cond) (a1 : Addr) (t : Addr) (kt : ClassId) (x0 : Int32) (x1 : Int32) (x2 : Int32) (h0 : Heap) (O0 : Ext Z.heap h0) (fp0 : Exa Z h0 a1 "java/lang/String") (fp1 : Fld Z h0 a1 "java/lang/String" "value" "[B" (.ref t)) (fp2 : Fld Z h0 a1 "java/lang/String" "coder" "B" (.int (0 : Int32))) (fp3 : Arv Z h0 t kt .byte (3 : Int32) [(.int x0), (.int x1), (.int x2)] (.int (0 : Int32))) (hd0 : own_Dg x0) :
    own_MF l Z h0 own_y20 prog_69_method_6_code 5 (some .boolean) ({ frames := 4, cells := 0, slots := 0, locals := 53 } : Room) #[(.ref a1), (.int (0 : Int32)), (.int (1 : Int32))] (Q_dig_3_0_1 Z zc wsf a1 t kt x0 x1 x2 h0) ws := by
  refine own_met (Q := (Q_dig_3_0_1 Z zc wsf a1 t kt x0 x1 x2 h0)) _ _ (plainFor_of_name own_pn_5) ?_
  intro p e s m below meth c T X0 hx hby hml hret hlk hZ hown hnm e0
  replace hown : s.vm.findClass "com/example/ibex/ibex/model/Constant" = some m.cls := hown
  replace hnm : meth.name = "digits" := hnm
  have hml : c.maxLocals = 5 := hml
  obtain ⟨oCS, oCz, oSF, r_wsf⟩ := id hO
  have N0 := Fr.nil Z.heap.size
  have K0 := Keep.refl h0 []
  refine own_go (fun _ k => castTop (ef_dig_3_0_1 m a1) k) ?_
  show own_Go p e below s _ _ _ (T.setTop (mkF m 0 #[rv a1, iv (0 : Int32), iv (1 : Int32), .unset, .unset] []))
  refine own_go (fun _ k => XS.iloadN X0.here hx rfl (hb hby d25_0) rfl (XS.istoreN X0.here hx rfl (hb hby d25_1) rfl (l' := #[rv a1, iv (0 : Int32), iv (1 : Int32), iv (0 : Int32), .unset]) rfl (XS.iloadN X0.here hx rfl (hb hby d25_2) rfl (XS.iloadN X0.here hx rfl (hb hby d25_3) rfl (XS.icmpNo X0.here hx rfl (hb hby d25_4) rfl (tlt (by decide : (0 : Int32) < (1 : Int32))).2.1 (XS.aloadN X0.here hx rfl (hb hby d25_7) rfl rfl (XS.iloadN X0.here hx rfl (hb hby d25_8) rfl k))))))) ?_
  obtain ⟨v1, T1, L1, X1, hQ1, st1⟩ := own_callV (y := own_y9) (z := own_y9) X0 hx hZ hown (ow118 hw) (ow119 hw) (notFace_of_selects (args := #[]) (mvT hZ (ow121 hw))) (ow121 hw) (ow120 hw) (ow7 hw) (ow122 hw) (rm_ch_0 l Z a0 hw hO [] a1 t kt (3 : Int32) ([(.int x1), (.int x2)] : List Value) x0 h0 O0 (fp0.keep K0) (fp1.keep K0 nin0) (fp2.keep K0 nin0) (fp3.keep K0 nin0) (by decide : (0 : Int32) < (3 : Int32))) 0 0 0 (by show _ ≤ 0; omega) (by show _ ≤ 0; omega) e0 (fp0.keep K0) (g := (mkF m 9 #[rv a1, iv (0 : Int32), iv (1 : Int32), iv (0 : Int32), .unset] [(.int (0 : Int32)), (.ref a1)])) rfl (by rw [hml]; rfl) [(.int (0 : Int32))] [] (lenOf own_pd_12 rfl) rfl rfl (hb hby d25_9)
  obtain ⟨rfl, Nc3, Kc2⟩ := hQ1
  refine own_go st1 ?_
  clear st1 X0 e0
  replace N0 := Fr.app N0 Nc3
  clear Nc3
  show own_Go p e below s _ _ _ (T1.setTop (mkF m 12 #[rv a1, iv (0 : Int32), iv (1 : Int32), iv (0 : Int32), .unset] [(.int (x0 &&& (255 : Int32)))]))
  refine own_go (fun _ k => XS.istore X1.here hx rfl (hb hby d25_12) rfl (l' := #[rv a1, iv (0 : Int32), iv (1 : Int32), iv (0 : Int32), iv (x0 &&& (255 : Int32))]) rfl (XS.iload X1.here hx rfl (hb hby d25_14) rfl (XS.bipush X1.here hx rfl (hb hby d25_16) (XS.icmpNo X1.here hx rfl (hb hby d25_18) rfl (flt hd0.1).1 (XS.iload X1.here hx rfl (hb hby d25_21) rfl (XS.bipush X1.here hx rfl (hb hby d25_23) (XS.icmpYes X1.here hx rfl (pc0 := 25) (pc' := 30) rfl (hb hby d25_25) rfl (flt hd0.2.1).2.2.2 (by decide) (by decide) (XS.iinc X1.here hx rfl (hb hby d25_30) rfl (l' := #[rv a1, iv (0 : Int32), iv (1 : Int32), iv (1 : Int32), iv (x0 &&& (255 : Int32))]) rfl k)))))))) ?_
  show own_Go p e below s _ _ _ (T1.setTop (mkF m 33 #[rv a1, iv (0 : Int32), iv (1 : Int32), iv (1 : Int32), iv (x0 &&& (255 : Int32))] []))
  refine own_go (fun _ k => XS.goto X1.here hx rfl (pc0 := 33) (pc' := 2) rfl (hb hby d25_33) (by decide) (by decide) (XS.iloadN X1.here hx rfl (hb hby d25_2) rfl (XS.iloadN X1.here hx rfl (hb hby d25_3) rfl (XS.icmpYes X1.here hx rfl (pc0 := 4) (pc' := 36) rfl (hb hby d25_4) rfl (flt (by decide : ¬ ((1 : Int32) < (1 : Int32)))).2.1 (by decide) (by decide) (XS.iloadN X1.here hx rfl (hb hby d25_36) rfl (XS.iloadN X1.here hx rfl (hb hby d25_37) rfl (XS.icmpNo X1.here hx rfl (hb hby d25_38) rfl (tlt (by decide : (0 : Int32) < (1 : Int32))).2.1 (XS.iconst X1.here hx rfl (hb hby d25_41) k)))))))) ?_
  show own_Go p e below s _ _ _ (T1.setTop (mkF m 42 #[rv a1, iv (0 : Int32), iv (1 : Int32), iv (1 : Int32), iv (x0 &&& (255 : Int32))] [(.int (1 : Int32))]))
  refine own_go (fun _ k => XS.goto X1.here hx rfl (pc0 := 42) (pc' := 46) rfl (hb hby d25_42) (by decide) (by decide) k) ?_
  show own_Go p e below s _ _ _ (T1.setTop (mkF m 46 #[rv a1, iv (0 : Int32), iv (1 : Int32), iv (1 : Int32), iv (x0 &&& (255 : Int32))] [(.int (1 : Int32))]))
  refine own_retN X1 hx hlk Kc2 (t := .boolean) hret (by simp) (hb hby d25_46) (by show _ ≤ 0; omega) (by show _ ≤ 0; omega) ?_
  exact ⟨rfl, N0, rfl⟩
def Q_dig_3_2_3 (Z : State) (zc : Int32) (wsf : Value) (a1 : Addr) (t : Addr) (kt : ClassId) (x0 : Int32) (x1 : Int32) (x2 : Int32) (h0 : Heap) (v : Option Value) (h : Heap) (L : List Loc) : Prop := (v = some (.int (1 : Int32)) ∧ Fr Z.heap.size L ∧ h = h0)
theorem ef_dig_3_2_3 (m : MethodId) (x0 : Addr) : entryFrame m #[(.ref x0), (.int (2 : Int32)), (.int (3 : Int32))] 5 = mkF m 0 #[rv x0, iv (2 : Int32), iv (3 : Int32), .unset, .unset] [] := by first | (simp [entryFrame, mkF, argsToLocals, Value.category]; done) | rfl
set_option maxRecDepth 65536 in
set_option maxHeartbeats 40000000 in
theorem rm_dig_3_2_3 (l : Launch) (Z : State) (a0 : Array Value) (hw : own_W Z a0) {zc : Int32} {wsf : Value} (hO : own_Olds Z zc wsf) (ws : List Jvm.Cond) (a1 : Addr) (t : Addr) (kt : ClassId) (x0 : Int32) (x1 : Int32) (x2 : Int32) (h0 : Heap) (O0 : Ext Z.heap h0) (fp0 : Exa Z h0 a1 "java/lang/String") (fp1 : Fld Z h0 a1 "java/lang/String" "value" "[B" (.ref t)) (fp2 : Fld Z h0 a1 "java/lang/String" "coder" "B" (.int (0 : Int32))) (fp3 : Arv Z h0 t kt .byte (3 : Int32) [(.int x0), (.int x1), (.int x2)] (.int (0 : Int32))) (hd2 : own_Dg x2) :
    own_MF l Z h0 own_y20 prog_69_method_6_code 5 (some .boolean) ({ frames := 4, cells := 0, slots := 0, locals := 53 } : Room) #[(.ref a1), (.int (2 : Int32)), (.int (3 : Int32))] (Q_dig_3_2_3 Z zc wsf a1 t kt x0 x1 x2 h0) ws := by
  refine own_met (Q := (Q_dig_3_2_3 Z zc wsf a1 t kt x0 x1 x2 h0)) _ _ (plainFor_of_name own_pn_5) ?_
  intro p e s m below meth c T X0 hx hby hml hret hlk hZ hown hnm e0
  replace hown : s.vm.findClass "com/example/ibex/ibex/model/Constant" = some m.cls := hown
  replace hnm : meth.name = "digits" := hnm
  have hml : c.maxLocals = 5 := hml
  obtain ⟨oCS, oCz, oSF, r_wsf⟩ := id hO
  have N0 := Fr.nil Z.heap.size
  have K0 := Keep.refl h0 []
  refine own_go (fun _ k => castTop (ef_dig_3_2_3 m a1) k) ?_
  show own_Go p e below s _ _ _ (T.setTop (mkF m 0 #[rv a1, iv (2 : Int32), iv (3 : Int32), .unset, .unset] []))
  refine own_go (fun _ k => XS.iloadN X0.here hx rfl (hb hby d25_0) rfl (XS.istoreN X0.here hx rfl (hb hby d25_1) rfl (l' := #[rv a1, iv (2 : Int32), iv (3 : Int32), iv (2 : Int32), .unset]) rfl (XS.iloadN X0.here hx rfl (hb hby d25_2) rfl (XS.iloadN X0.here hx rfl (hb hby d25_3) rfl (XS.icmpNo X0.here hx rfl (hb hby d25_4) rfl (tlt (by decide : (2 : Int32) < (3 : Int32))).2.1 (XS.aloadN X0.here hx rfl (hb hby d25_7) rfl rfl (XS.iloadN X0.here hx rfl (hb hby d25_8) rfl k))))))) ?_
  obtain ⟨v1, T1, L1, X1, hQ1, st1⟩ := own_callV (y := own_y9) (z := own_y9) X0 hx hZ hown (ow118 hw) (ow119 hw) (notFace_of_selects (args := #[]) (mvT hZ (ow121 hw))) (ow121 hw) (ow120 hw) (ow7 hw) (ow122 hw) (rm_ch_2 l Z a0 hw hO [] a1 t kt (3 : Int32) ([] : List Value) x0 x1 x2 h0 O0 (fp0.keep K0) (fp1.keep K0 nin0) (fp2.keep K0 nin0) (fp3.keep K0 nin0) (by decide : (2 : Int32) < (3 : Int32))) 0 0 0 (by show _ ≤ 0; omega) (by show _ ≤ 0; omega) e0 (fp0.keep K0) (g := (mkF m 9 #[rv a1, iv (2 : Int32), iv (3 : Int32), iv (2 : Int32), .unset] [(.int (2 : Int32)), (.ref a1)])) rfl (by rw [hml]; rfl) [(.int (2 : Int32))] [] (lenOf own_pd_12 rfl) rfl rfl (hb hby d25_9)
  obtain ⟨rfl, Nc3, Kc2⟩ := hQ1
  refine own_go st1 ?_
  clear st1 X0 e0
  replace N0 := Fr.app N0 Nc3
  clear Nc3
  show own_Go p e below s _ _ _ (T1.setTop (mkF m 12 #[rv a1, iv (2 : Int32), iv (3 : Int32), iv (2 : Int32), .unset] [(.int (x2 &&& (255 : Int32)))]))
  refine own_go (fun _ k => XS.istore X1.here hx rfl (hb hby d25_12) rfl (l' := #[rv a1, iv (2 : Int32), iv (3 : Int32), iv (2 : Int32), iv (x2 &&& (255 : Int32))]) rfl (XS.iload X1.here hx rfl (hb hby d25_14) rfl (XS.bipush X1.here hx rfl (hb hby d25_16) (XS.icmpNo X1.here hx rfl (hb hby d25_18) rfl (flt hd2.1).1 (XS.iload X1.here hx rfl (hb hby d25_21) rfl (XS.bipush X1.here hx rfl (hb hby d25_23) (XS.icmpYes X1.here hx rfl (pc0 := 25) (pc' := 30) rfl (hb hby d25_25) rfl (flt hd2.2.1).2.2.2 (by decide) (by decide) (XS.iinc X1.here hx rfl (hb hby d25_30) rfl (l' := #[rv a1, iv (2 : Int32), iv (3 : Int32), iv (3 : Int32), iv (x2 &&& (255 : Int32))]) rfl k)))))))) ?_
  show own_Go p e below s _ _ _ (T1.setTop (mkF m 33 #[rv a1, iv (2 : Int32), iv (3 : Int32), iv (3 : Int32), iv (x2 &&& (255 : Int32))] []))
  refine own_go (fun _ k => XS.goto X1.here hx rfl (pc0 := 33) (pc' := 2) rfl (hb hby d25_33) (by decide) (by decide) (XS.iloadN X1.here hx rfl (hb hby d25_2) rfl (XS.iloadN X1.here hx rfl (hb hby d25_3) rfl (XS.icmpYes X1.here hx rfl (pc0 := 4) (pc' := 36) rfl (hb hby d25_4) rfl (flt (by decide : ¬ ((3 : Int32) < (3 : Int32)))).2.1 (by decide) (by decide) (XS.iloadN X1.here hx rfl (hb hby d25_36) rfl (XS.iloadN X1.here hx rfl (hb hby d25_37) rfl (XS.icmpNo X1.here hx rfl (hb hby d25_38) rfl (tlt (by decide : (2 : Int32) < (3 : Int32))).2.1 (XS.iconst X1.here hx rfl (hb hby d25_41) k)))))))) ?_
  show own_Go p e below s _ _ _ (T1.setTop (mkF m 42 #[rv a1, iv (2 : Int32), iv (3 : Int32), iv (3 : Int32), iv (x2 &&& (255 : Int32))] [(.int (1 : Int32))]))
  refine own_go (fun _ k => XS.goto X1.here hx rfl (pc0 := 42) (pc' := 46) rfl (hb hby d25_42) (by decide) (by decide) k) ?_
  show own_Go p e below s _ _ _ (T1.setTop (mkF m 46 #[rv a1, iv (2 : Int32), iv (3 : Int32), iv (3 : Int32), iv (x2 &&& (255 : Int32))] [(.int (1 : Int32))]))
  refine own_retN X1 hx hlk Kc2 (t := .boolean) hret (by simp) (hb hby d25_46) (by show _ ≤ 0; omega) (by show _ ≤ 0; omega) ?_
  exact ⟨rfl, N0, rfl⟩
def Q_dig_2_0_2 (Z : State) (zc : Int32) (wsf : Value) (a1 : Addr) (t : Addr) (kt : ClassId) (x0 : Int32) (x1 : Int32) (h0 : Heap) (v : Option Value) (h : Heap) (L : List Loc) : Prop := (v = some (.int (1 : Int32)) ∧ Fr Z.heap.size L ∧ h = h0)
theorem ef_dig_2_0_2 (m : MethodId) (x0 : Addr) : entryFrame m #[(.ref x0), (.int (0 : Int32)), (.int (2 : Int32))] 5 = mkF m 0 #[rv x0, iv (0 : Int32), iv (2 : Int32), .unset, .unset] [] := by first | (simp [entryFrame, mkF, argsToLocals, Value.category]; done) | rfl
set_option maxRecDepth 65536 in
set_option maxHeartbeats 40000000 in
theorem rm_dig_2_0_2 (l : Launch) (Z : State) (a0 : Array Value) (hw : own_W Z a0) {zc : Int32} {wsf : Value} (hO : own_Olds Z zc wsf) (ws : List Jvm.Cond) (a1 : Addr) (t : Addr) (kt : ClassId) (x0 : Int32) (x1 : Int32) (h0 : Heap) (O0 : Ext Z.heap h0) (fp0 : Exa Z h0 a1 "java/lang/String") (fp1 : Fld Z h0 a1 "java/lang/String" "value" "[B" (.ref t)) (fp2 : Fld Z h0 a1 "java/lang/String" "coder" "B" (.int (0 : Int32))) (fp3 : Arv Z h0 t kt .byte (2 : Int32) [(.int x0), (.int x1)] (.int (0 : Int32))) (hd0 : own_Dg x0) (hd1 : own_Dg x1) :
    own_MF l Z h0 own_y20 prog_69_method_6_code 5 (some .boolean) ({ frames := 4, cells := 0, slots := 0, locals := 53 } : Room) #[(.ref a1), (.int (0 : Int32)), (.int (2 : Int32))] (Q_dig_2_0_2 Z zc wsf a1 t kt x0 x1 h0) ws := by
  refine own_met (Q := (Q_dig_2_0_2 Z zc wsf a1 t kt x0 x1 h0)) _ _ (plainFor_of_name own_pn_5) ?_
  intro p e s m below meth c T X0 hx hby hml hret hlk hZ hown hnm e0
  replace hown : s.vm.findClass "com/example/ibex/ibex/model/Constant" = some m.cls := hown
  replace hnm : meth.name = "digits" := hnm
  have hml : c.maxLocals = 5 := hml
  obtain ⟨oCS, oCz, oSF, r_wsf⟩ := id hO
  have N0 := Fr.nil Z.heap.size
  have K0 := Keep.refl h0 []
  refine own_go (fun _ k => castTop (ef_dig_2_0_2 m a1) k) ?_
  show own_Go p e below s _ _ _ (T.setTop (mkF m 0 #[rv a1, iv (0 : Int32), iv (2 : Int32), .unset, .unset] []))
  refine own_go (fun _ k => XS.iloadN X0.here hx rfl (hb hby d25_0) rfl (XS.istoreN X0.here hx rfl (hb hby d25_1) rfl (l' := #[rv a1, iv (0 : Int32), iv (2 : Int32), iv (0 : Int32), .unset]) rfl (XS.iloadN X0.here hx rfl (hb hby d25_2) rfl (XS.iloadN X0.here hx rfl (hb hby d25_3) rfl (XS.icmpNo X0.here hx rfl (hb hby d25_4) rfl (tlt (by decide : (0 : Int32) < (2 : Int32))).2.1 (XS.aloadN X0.here hx rfl (hb hby d25_7) rfl rfl (XS.iloadN X0.here hx rfl (hb hby d25_8) rfl k))))))) ?_
  obtain ⟨v1, T1, L1, X1, hQ1, st1⟩ := own_callV (y := own_y9) (z := own_y9) X0 hx hZ hown (ow118 hw) (ow119 hw) (notFace_of_selects (args := #[]) (mvT hZ (ow121 hw))) (ow121 hw) (ow120 hw) (ow7 hw) (ow122 hw) (rm_ch_0 l Z a0 hw hO [] a1 t kt (2 : Int32) ([(.int x1)] : List Value) x0 h0 O0 (fp0.keep K0) (fp1.keep K0 nin0) (fp2.keep K0 nin0) (fp3.keep K0 nin0) (by decide : (0 : Int32) < (2 : Int32))) 0 0 0 (by show _ ≤ 0; omega) (by show _ ≤ 0; omega) e0 (fp0.keep K0) (g := (mkF m 9 #[rv a1, iv (0 : Int32), iv (2 : Int32), iv (0 : Int32), .unset] [(.int (0 : Int32)), (.ref a1)])) rfl (by rw [hml]; rfl) [(.int (0 : Int32))] [] (lenOf own_pd_12 rfl) rfl rfl (hb hby d25_9)
  obtain ⟨rfl, Nc3, Kc2⟩ := hQ1
  refine own_go st1 ?_
  clear st1 X0 e0
  replace N0 := Fr.app N0 Nc3
  clear Nc3
  show own_Go p e below s _ _ _ (T1.setTop (mkF m 12 #[rv a1, iv (0 : Int32), iv (2 : Int32), iv (0 : Int32), .unset] [(.int (x0 &&& (255 : Int32)))]))
  refine own_go (fun _ k => XS.istore X1.here hx rfl (hb hby d25_12) rfl (l' := #[rv a1, iv (0 : Int32), iv (2 : Int32), iv (0 : Int32), iv (x0 &&& (255 : Int32))]) rfl (XS.iload X1.here hx rfl (hb hby d25_14) rfl (XS.bipush X1.here hx rfl (hb hby d25_16) (XS.icmpNo X1.here hx rfl (hb hby d25_18) rfl (flt hd0.1).1 (XS.iload X1.here hx rfl (hb hby d25_21) rfl (XS.bipush X1.here hx rfl (hb hby d25_23) (XS.icmpYes X1.here hx rfl (pc0 := 25) (pc' := 30) rfl (hb hby d25_25) rfl (flt hd0.2.1).2.2.2 (by decide) (by decide) (XS.iinc X1.here hx rfl (hb hby d25_30) rfl (l' := #[rv a1, iv (0 : Int32), iv (2 : Int32), iv (1 : Int32), iv (x0 &&& (255 : Int32))]) rfl k)))))))) ?_
  show own_Go p e below s _ _ _ (T1.setTop (mkF m 33 #[rv a1, iv (0 : Int32), iv (2 : Int32), iv (1 : Int32), iv (x0 &&& (255 : Int32))] []))
  refine own_go (fun _ k => XS.goto X1.here hx rfl (pc0 := 33) (pc' := 2) rfl (hb hby d25_33) (by decide) (by decide) (XS.iloadN X1.here hx rfl (hb hby d25_2) rfl (XS.iloadN X1.here hx rfl (hb hby d25_3) rfl (XS.icmpNo X1.here hx rfl (hb hby d25_4) rfl (tlt (by decide : (1 : Int32) < (2 : Int32))).2.1 (XS.aloadN X1.here hx rfl (hb hby d25_7) rfl rfl (XS.iloadN X1.here hx rfl (hb hby d25_8) rfl k)))))) ?_
  obtain ⟨v4, T4, L4, X4, hQ4, st4⟩ := own_callV (y := own_y9) (z := own_y9) X1 hx hZ hown (ow118 hw) (ow119 hw) (notFace_of_selects (args := #[]) (mvT hZ (ow121 hw))) (ow121 hw) (ow120 hw) (ow7 hw) (ow122 hw) (rm_ch_1 l Z a0 hw hO [] a1 t kt (2 : Int32) ([] : List Value) x0 x1 h0 O0 (fp0.keep K0) (fp1.keep K0 nin0) (fp2.keep K0 nin0) (fp3.keep K0 nin0) (by decide : (1 : Int32) < (2 : Int32))) 0 0 0 (by show _ ≤ 0; omega) (by show _ ≤ 0; omega) Kc2 (fp0.keep K0) (g := (mkF m 9 #[rv a1, iv (0 : Int32), iv (2 : Int32), iv (1 : Int32), iv (x0 &&& (255 : Int32))] [(.int (1 : Int32)), (.ref a1)])) rfl (by rw [hml]; rfl) [(.int (1 : Int32))] [] (lenOf own_pd_12 rfl) rfl rfl (hb hby d25_9)
  obtain ⟨rfl, Nc6, Kc5⟩ := hQ4
  refine own_go st4 ?_
  clear st4 X1 Kc2
  replace N0 := Fr.app N0 Nc6
  clear Nc6
  refine own_go (fun _ k => XS.istore X4.here hx rfl (hb hby d25_12) rfl (l' := #[rv a1, iv (0 : Int32), iv (2 : Int32), iv (1 : Int32), iv (x1 &&& (255 : Int32))]) rfl k) ?_
  show own_Go p e below s _ _ _ (T4.setTop (mkF m 14 #[rv a1, iv (0 : Int32), iv (2 : Int32), iv (1 : Int32), iv (x1 &&& (255 : Int32))] []))
  refine own_go (fun _ k => XS.iload X4.here hx rfl (hb hby d25_14) rfl (XS.bipush X4.here hx rfl (hb hby d25_16) (XS.icmpNo X4.here hx rfl (hb hby d25_18) rfl (flt hd1.1).1 (XS.iload X4.here hx rfl (hb hby d25_21) rfl (XS.bipush X4.here hx rfl (hb hby d25_23) (XS.icmpYes X4.here hx rfl (pc0 := 25) (pc' := 30) rfl (hb hby d25_25) rfl (flt hd1.2.1).2.2.2 (by decide) (by decide) (XS.iinc X4.here hx rfl (hb hby d25_30) rfl (l' := #[rv a1, iv (0 : Int32), iv (2 : Int32), iv (2 : Int32), iv (x1 &&& (255 : Int32))]) rfl (XS.goto X4.here hx rfl (pc0 := 33) (pc' := 2) rfl (hb hby d25_33) (by decide) (by decide) k)))))))) ?_
  show own_Go p e below s _ _ _ (T4.setTop (mkF m 2 #[rv a1, iv (0 : Int32), iv (2 : Int32), iv (2 : Int32), iv (x1 &&& (255 : Int32))] []))
  refine own_go (fun _ k => XS.iloadN X4.here hx rfl (hb hby d25_2) rfl (XS.iloadN X4.here hx rfl (hb hby d25_3) rfl (XS.icmpYes X4.here hx rfl (pc0 := 4) (pc' := 36) rfl (hb hby d25_4) rfl (flt (by decide : ¬ ((2 : Int32) < (2 : Int32)))).2.1 (by decide) (by decide) (XS.iloadN X4.here hx rfl (hb hby d25_36) rfl (XS.iloadN X4.here hx rfl (hb hby d25_37) rfl (XS.icmpNo X4.here hx rfl (hb hby d25_38) rfl (tlt (by decide : (0 : Int32) < (2 : Int32))).2.1 (XS.iconst X4.here hx rfl (hb hby d25_41) (XS.goto X4.here hx rfl (pc0 := 42) (pc' := 46) rfl (hb hby d25_42) (by decide) (by decide) k)))))))) ?_
  show own_Go p e below s _ _ _ (T4.setTop (mkF m 46 #[rv a1, iv (0 : Int32), iv (2 : Int32), iv (2 : Int32), iv (x1 &&& (255 : Int32))] [(.int (1 : Int32))]))
  refine own_retN X4 hx hlk Kc5 (t := .boolean) hret (by simp) (hb hby d25_46) (by show _ ≤ 0; omega) (by show _ ≤ 0; omega) ?_
  exact ⟨rfl, N0, rfl⟩
theorem d32_0 : decode jdk_41_method_12_code 0 = .ok (.iload_n 0, 1) := by decide +kernel
theorem d32_1 : decode jdk_41_method_12_code 1 = .ok (.ifCond .lt 13, 3) := by decide +kernel
theorem d32_4 : decode jdk_41_method_12_code 4 = .ok (.iload_n 0, 1) := by decide +kernel
theorem d32_5 : decode jdk_41_method_12_code 5 = .ok (.iload_n 1, 1) := by decide +kernel
theorem d32_6 : decode jdk_41_method_12_code 6 = .ok (.if_icmp .gt 8, 3) := by decide +kernel
theorem d32_9 : decode jdk_41_method_12_code 9 = .ok (.iload_n 1, 1) := by decide +kernel
theorem d32_10 : decode jdk_41_method_12_code 10 = .ok (.iload_n 2, 1) := by decide +kernel
theorem d32_11 : decode jdk_41_method_12_code 11 = .ok (.if_icmp .le 11, 3) := by decide +kernel
theorem d32_22 : decode jdk_41_method_12_code 22 = .ok (.iload_n 0, 1) := by decide +kernel
theorem d32_23 : decode jdk_41_method_12_code 23 = .ok (.ireturn, 1) := by decide +kernel
def Q_cft (Z : State) (zc : Int32) (wsf : Value) (p1 : Int32) (p2 : Int32) (p3 : Int32) (gv4 : Value) (h0 : Heap) (v : Option Value) (h : Heap) (L : List Loc) : Prop := (v = some (.int p1) ∧ Fr Z.heap.size L ∧ h = h0)
theorem ef_cft (m : MethodId) (x0 : Int32) (x1 : Int32) (x2 : Int32) (x3 : Value) (hx3 : x3.isRef = true) : entryFrame m #[(.int x0), (.int x1), (.int x2), x3] 4 = mkF m 0 #[iv x0, iv x1, iv x2, .val x3] [] := by first | (simp [entryFrame, mkF, argsToLocals, own_catR, own_catN, own_catI, own_catJ, own_cat1 hx3]; done) | rfl
set_option maxRecDepth 65536 in
set_option maxHeartbeats 40000000 in
theorem rm_cft (l : Launch) (Z : State) (a0 : Array Value) (hw : own_W Z a0) {zc : Int32} {wsf : Value} (hO : own_Olds Z zc wsf) (ws : List Jvm.Cond) (p1 : Int32) (p2 : Int32) (p3 : Int32) (gv4 : Value) (h0 : Heap) (O0 : Ext Z.heap h0) (r_gv4 : gv4.isRef = true) (hp1 : ¬ (p1 < (0 : Int32))) (hp2 : ¬ (p2 < p1)) (hp3 : ¬ (p3 < p2)) :
    own_MF l Z h0 own_y21 jdk_41_method_12_code 4 (some .int) ({ frames := 0, cells := 0, slots := 0, locals := 0 } : Room) #[(.int p1), (.int p2), (.int p3), gv4] (Q_cft Z zc wsf p1 p2 p3 gv4 h0) ws := by
  refine own_met (Q := (Q_cft Z zc wsf p1 p2 p3 gv4 h0)) _ _ (plainFor_of_name own_pn_2) ?_
  intro p e s m below meth c T X0 hx hby hml hret hlk hZ hown hnm e0
  replace hown : s.vm.findClass "jdk/internal/util/Preconditions" = some m.cls := hown
  replace hnm : meth.name = "checkFromToIndex" := hnm
  have hml : c.maxLocals = 4 := hml
  obtain ⟨oCS, oCz, oSF, r_wsf⟩ := id hO
  have N0 := Fr.nil Z.heap.size
  have K0 := Keep.refl h0 []
  refine own_go (fun _ k => castTop (ef_cft m p1 p2 p3 gv4 r_gv4) k) ?_
  show own_Go p e below s _ _ _ (T.setTop (mkF m 0 #[iv p1, iv p2, iv p3, .val gv4] []))
  refine own_go (fun _ k => XS.iloadN X0.here hx rfl (hb hby d32_0) rfl (XS.ifNo X0.here hx rfl (hb hby d32_1) rfl ((if0 _ _).trans (flt hp1).1) (XS.iloadN X0.here hx rfl (hb hby d32_4) rfl (XS.iloadN X0.here hx rfl (hb hby d32_5) rfl (XS.icmpNo X0.here hx rfl (hb hby d32_6) rfl (flt hp2).2.2.1 (XS.iloadN X0.here hx rfl (hb hby d32_9) rfl (XS.iloadN X0.here hx rfl (hb hby d32_10) rfl (XS.icmpYes X0.here hx rfl (pc0 := 11) (pc' := 22) rfl (hb hby d32_11) rfl (flt hp3).2.2.2 (by decide) (by decide) k)))))))) ?_
  show own_Go p e below s _ _ _ (T.setTop (mkF m 22 #[iv p1, iv p2, iv p3, .val gv4] []))
  refine own_go (fun _ k => XS.iloadN X0.here hx rfl (hb hby d32_22) rfl k) ?_
  show own_Go p e below s _ _ _ (T.setTop (mkF m 23 #[iv p1, iv p2, iv p3, .val gv4] [(.int p1)]))
  refine own_retI X0 hx hlk e0 hret (hb hby d32_23) (by show _ ≤ 0; omega) (by show _ ≤ 0; omega) ?_
  exact ⟨rfl, N0, rfl⟩
theorem d31_0 : decode jdk_42_method_158_code 0 = .ok (.iload_n 0, 1) := by decide +kernel
theorem d31_1 : decode jdk_42_method_158_code 1 = .ok (.iload_n 1, 1) := by decide +kernel
theorem d31_2 : decode jdk_42_method_158_code 2 = .ok (.iload_n 2, 1) := by decide +kernel
theorem d31_3 : decode jdk_42_method_158_code 3 = .ok (.getstatic 1053, 3) := by decide +kernel
theorem d31_6 : decode jdk_42_method_158_code 6 = .ok (.invokestatic 1062, 3) := by decide +kernel
theorem d31_9 : decode jdk_42_method_158_code 9 = .ok (.pop, 1) := by decide +kernel
theorem d31_10 : decode jdk_42_method_158_code 10 = .ok (.return_, 1) := by decide +kernel
def Q_cbe (Z : State) (zc : Int32) (wsf : Value) (p1 : Int32) (p2 : Int32) (p3 : Int32) (h0 : Heap) (v : Option Value) (h : Heap) (L : List Loc) : Prop := (v = none ∧ Fr Z.heap.size L ∧ h = h0)
theorem ef_cbe (m : MethodId) (x0 : Int32) (x1 : Int32) (x2 : Int32) : entryFrame m #[(.int x0), (.int x1), (.int x2)] 3 = mkF m 0 #[iv x0, iv x1, iv x2] [] := by first | (simp [entryFrame, mkF, argsToLocals, Value.category]; done) | rfl
set_option maxRecDepth 65536 in
set_option maxHeartbeats 40000000 in
theorem rm_cbe (l : Launch) (Z : State) (a0 : Array Value) (hw : own_W Z a0) {zc : Int32} {wsf : Value} (hO : own_Olds Z zc wsf) (ws : List Jvm.Cond) (p1 : Int32) (p2 : Int32) (p3 : Int32) (h0 : Heap) (O0 : Ext Z.heap h0) (hp1 : ¬ (p1 < (0 : Int32))) (hp2 : ¬ (p2 < p1)) (hp3 : ¬ (p3 < p2)) :
    own_MF l Z h0 own_y22 jdk_42_method_158_code 3 none ({ frames := 1, cells := 0, slots := 0, locals := 15 } : Room) #[(.int p1), (.int p2), (.int p3)] (Q_cbe Z zc wsf p1 p2 p3 h0) ws := by
  refine own_met (Q := (Q_cbe Z zc wsf p1 p2 p3 h0)) _ _ (plainFor_of_name own_pn_0) ?_
  intro p e s m below meth c T X0 hx hby hml hret hlk hZ hown hnm e0
  replace hown : s.vm.findClass "java/lang/String" = some m.cls := hown
  replace hnm : meth.name = "checkBoundsBeginEnd" := hnm
  have hml : c.maxLocals = 3 := hml
  obtain ⟨oCS, oCz, oSF, r_wsf⟩ := id hO
  have N0 := Fr.nil Z.heap.size
  have K0 := Keep.refl h0 []
  refine own_go (fun _ k => castTop (ef_cbe m p1 p2 p3) k) ?_
  show own_Go p e below s _ _ _ (T.setTop (mkF m 0 #[iv p1, iv p2, iv p3] []))
  refine own_go (fun _ k => XS.iloadN X0.here hx rfl (hb hby d31_0) rfl (XS.iloadN X0.here hx rfl (hb hby d31_1) rfl (XS.iloadN X0.here hx rfl (hb hby d31_2) rfl k))) ?_
  obtain ⟨T1, X1, e1, st1⟩ := getS2 X0 hx hZ hown (host := "") (Or.inl (ow129 hw)) Via.refl e0 (oSF.ext O0) (g := (mkF m 3 #[iv p1, iv p2, iv p3] [(.int p3), (.int p2), (.int p1)])) rfl (hb hby d31_3)
  refine own_go st1 ?_
  clear st1 X0 e0
  obtain ⟨v2, T2, L2, X2, hQ2, st2⟩ := own_callS (y := own_y21) X1 hx hZ hown (ow142 hw) (ow143 hw) (ow130 hw) (ow144 hw) (rm_cft l Z a0 hw hO [] p1 p2 p3 wsf h0 O0 r_wsf hp1 hp2 hp3) 0 0 0 (by show _ ≤ 0; omega) (by show _ ≤ 0; omega) e1 (g := (mkF m 6 #[iv p1, iv p2, iv p3] [wsf, (.int p3), (.int p2), (.int p1)])) rfl (by rw [hml]; rfl) [(.int p1), (.int p2), (.int p3), wsf] [] (lenOf own_pd_13 rfl) rfl rfl (hb hby d31_6)
  obtain ⟨rfl, Nc4, Kc3⟩ := hQ2
  refine own_go st2 ?_
  clear st2 X1 e1
  replace N0 := Fr.app N0 Nc4
  clear Nc4
  refine own_go (fun _ k => XS.pop X2.here hx rfl (hb hby d31_9) rfl rfl k) ?_
  show own_Go p e below s _ _ _ (T2.setTop (mkF m 10 #[iv p1, iv p2, iv p3] []))
  refine own_retV X2 hx hlk Kc3 hret (hb hby d31_10) (by show _ ≤ 0; omega) (by show _ ≤ 0; omega) ?_
  exact ⟨rfl, N0, rfl⟩
theorem d39_0 : decode jdk_65_method_131_code 0 = .ok (.iload_n 1, 1) := by decide +kernel
theorem d39_1 : decode jdk_65_method_131_code 1 = .ok (.iload_n 0, 1) := by decide +kernel
theorem d39_2 : decode jdk_65_method_131_code 2 = .ok (.if_icmp .ge 35, 3) := by decide +kernel
theorem d39_37 : decode jdk_65_method_131_code 37 = .ok (.return_, 1) := by decide +kernel
def Q_ckl (Z : State) (zc : Int32) (wsf : Value) (p1 : Int32) (p2 : Int32) (h0 : Heap) (v : Option Value) (h : Heap) (L : List Loc) : Prop := (v = none ∧ Fr Z.heap.size L ∧ h = h0)
theorem ef_ckl (m : MethodId) (x0 : Int32) (x1 : Int32) : entryFrame m #[(.int x0), (.int x1)] 2 = mkF m 0 #[iv x0, iv x1] [] := by first | (simp [entryFrame, mkF, argsToLocals, Value.category]; done) | rfl
set_option maxRecDepth 65536 in
set_option maxHeartbeats 40000000 in
theorem rm_ckl (l : Launch) (Z : State) (a0 : Array Value) (hw : own_W Z a0) {zc : Int32} {wsf : Value} (hO : own_Olds Z zc wsf) (ws : List Jvm.Cond) (p1 : Int32) (p2 : Int32) (h0 : Heap) (O0 : Ext Z.heap h0) (hp1 : ¬ (p2 < p1)) :
    own_MF l Z h0 own_y23 jdk_65_method_131_code 2 none ({ frames := 0, cells := 0, slots := 0, locals := 0 } : Room) #[(.int p1), (.int p2)] (Q_ckl Z zc wsf p1 p2 h0) ws := by
  refine own_met (Q := (Q_ckl Z zc wsf p1 p2 h0)) _ _ (plainFor_of_name own_pn_6) ?_
  intro p e s m below meth c T X0 hx hby hml hret hlk hZ hown hnm e0
  replace hown : s.vm.findClass "java/util/Arrays" = some m.cls := hown
  replace hnm : meth.name = "checkLength" := hnm
  have hml : c.maxLocals = 2 := hml
  obtain ⟨oCS, oCz, oSF, r_wsf⟩ := id hO
  have N0 := Fr.nil Z.heap.size
  have K0 := Keep.refl h0 []
  refine own_go (fun _ k => castTop (ef_ckl m p1 p2) k) ?_
  show own_Go p e below s _ _ _ (T.setTop (mkF m 0 #[iv p1, iv p2] []))
  refine own_go (fun _ k => XS.iloadN X0.here hx rfl (hb hby d39_0) rfl (XS.iloadN X0.here hx rfl (hb hby d39_1) rfl (XS.icmpYes X0.here hx rfl (pc0 := 2) (pc' := 37) rfl (hb hby d39_2) rfl (flt hp1).2.1 (by decide) (by decide) k))) ?_
  show own_Go p e below s _ _ _ (T.setTop (mkF m 37 #[iv p1, iv p2] []))
  refine own_retV X0 hx hlk e0 hret (hb hby d39_37) (by show _ ≤ 0; omega) (by show _ ≤ 0; omega) ?_
  exact ⟨rfl, N0, rfl⟩
theorem d38_0 : decode jdk_65_method_133_code 0 = .ok (.iload_n 1, 1) := by decide +kernel
theorem d38_1 : decode jdk_65_method_133_code 1 = .ok (.iload_n 2, 1) := by decide +kernel
theorem d38_2 : decode jdk_65_method_133_code 2 = .ok (.invokestatic 343, 3) := by decide +kernel
theorem d38_5 : decode jdk_65_method_133_code 5 = .ok (.iload_n 2, 1) := by decide +kernel
theorem d38_6 : decode jdk_65_method_133_code 6 = .ok (.iload_n 1, 1) := by decide +kernel
theorem d38_7 : decode jdk_65_method_133_code 7 = .ok (.isub, 1) := by decide +kernel
theorem d38_8 : decode jdk_65_method_133_code 8 = .ok (.istore_n 3, 1) := by decide +kernel
theorem d38_9 : decode jdk_65_method_133_code 9 = .ok (.iload_n 3, 1) := by decide +kernel
theorem d38_10 : decode jdk_65_method_133_code 10 = .ok (.newarray .byte, 2) := by decide +kernel
theorem d38_12 : decode jdk_65_method_133_code 12 = .ok (.astore 4, 2) := by decide +kernel
theorem d38_14 : decode jdk_65_method_133_code 14 = .ok (.aload_n 0, 1) := by decide +kernel
theorem d38_15 : decode jdk_65_method_133_code 15 = .ok (.iload_n 1, 1) := by decide +kernel
theorem d38_16 : decode jdk_65_method_133_code 16 = .ok (.aload 4, 2) := by decide +kernel
theorem d38_18 : decode jdk_65_method_133_code 18 = .ok (.iconst 0, 1) := by decide +kernel
theorem d38_19 : decode jdk_65_method_133_code 19 = .ok (.aload_n 0, 1) := by decide +kernel
theorem d38_20 : decode jdk_65_method_133_code 20 = .ok (.arraylength, 1) := by decide +kernel
theorem d38_21 : decode jdk_65_method_133_code 21 = .ok (.iload_n 1, 1) := by decide +kernel
theorem d38_22 : decode jdk_65_method_133_code 22 = .ok (.isub, 1) := by decide +kernel
theorem d38_23 : decode jdk_65_method_133_code 23 = .ok (.iload_n 3, 1) := by decide +kernel
theorem d38_24 : decode jdk_65_method_133_code 24 = .ok (.invokestatic 304, 3) := by decide +kernel
theorem d38_27 : decode jdk_65_method_133_code 27 = .ok (.invokestatic 150, 3) := by decide +kernel
theorem d38_30 : decode jdk_65_method_133_code 30 = .ok (.aload 4, 2) := by decide +kernel
theorem d38_32 : decode jdk_65_method_133_code 32 = .ok (.areturn, 1) := by decide +kernel
def Q_crbG (Z : State) (zc : Int32) (wsf : Value) (t : Addr) (p2 : Int32) (p3 : Int32) (kt : ClassId) (nz : Int32) (vl : List Value) (h0 : Heap) (v : Option Value) (h : Heap) (L : List Loc) : Prop := (∃ b : Addr, ∃ k2 : ClassId, ∃ ls : List Value, v = some (.ref b) ∧ Fr Z.heap.size L ∧ Keep h0 h [] ∧ h0.size ≤ b ∧ Arv Z h b k2 .byte (p3 - p2) ls (.int (0 : Int32)))
theorem ef_crbG (m : MethodId) (x0 : Addr) (x1 : Int32) (x2 : Int32) : entryFrame m #[(.ref x0), (.int x1), (.int x2)] 5 = mkF m 0 #[rv x0, iv x1, iv x2, .unset, .unset] [] := by first | (simp [entryFrame, mkF, argsToLocals, Value.category]; done) | rfl
set_option maxRecDepth 65536 in
set_option maxHeartbeats 40000000 in
theorem rm_crbG (l : Launch) (Z : State) (a0 : Array Value) (hw : own_W Z a0) {zc : Int32} {wsf : Value} (hO : own_Olds Z zc wsf) (ws : List Jvm.Cond) (t : Addr) (p2 : Int32) (p3 : Int32) (kt : ClassId) (nz : Int32) (vl : List Value) (h0 : Heap) (O0 : Ext Z.heap h0) (fp0 : Arv Z h0 t kt .byte nz vl (.int (0 : Int32))) (hrg : own_Rg p2 p3 nz) :
    own_MF l Z h0 own_y24 jdk_65_method_133_code 5 (some (.array .byte)) ({ frames := 2, cells := 1, slots := 16, locals := 30 } : Room) #[(.ref t), (.int p2), (.int p3)] (Q_crbG Z zc wsf t p2 p3 kt nz vl h0) ws := by
  refine own_met (Q := (Q_crbG Z zc wsf t p2 p3 kt nz vl h0)) _ _ (plainFor_of_name own_pn_6) ?_
  intro p e s m below meth c T X0 hx hby hml hret hlk hZ hown hnm e0
  replace hown : s.vm.findClass "java/util/Arrays" = some m.cls := hown
  replace hnm : meth.name = "copyOfRangeByte" := hnm
  have hml : c.maxLocals = 5 := hml
  obtain ⟨oCS, oCz, oSF, r_wsf⟩ := id hO
  have N0 := Fr.nil Z.heap.size
  have K0 := Keep.refl h0 []
  refine own_go (fun _ k => castTop (ef_crbG m t p2 p3) k) ?_
  show own_Go p e below s _ _ _ (T.setTop (mkF m 0 #[rv t, iv p2, iv p3, .unset, .unset] []))
  refine own_go (fun _ k => XS.iloadN X0.here hx rfl (hb hby d38_0) rfl (XS.iloadN X0.here hx rfl (hb hby d38_1) rfl k)) ?_
  obtain ⟨v1, T1, L1, X1, hQ1, st1⟩ := own_callS (y := own_y23) X0 hx hZ hown (ow177 hw) (ow178 hw) (ow172 hw) (ow179 hw) (rm_ckl l Z a0 hw hO [] p2 p3 h0 O0 hrg.2.1) 0 0 0 (by show _ ≤ 1; omega) (by show _ ≤ 16; omega) e0 (g := (mkF m 2 #[rv t, iv p2, iv p3, .unset, .unset] [(.int p3), (.int p2)])) rfl (by rw [hml]; rfl) [(.int p2), (.int p3)] [] (lenOf own_pd_3 rfl) rfl rfl (hb hby d38_2)
  obtain ⟨rfl, Nc3, Kc2⟩ := hQ1
  refine own_go st1 ?_
  clear st1 X0 e0
  replace N0 := Fr.app N0 Nc3
  clear Nc3
  refine own_go (fun _ k => XS.iloadN X1.here hx rfl (hb hby d38_5) rfl (XS.iloadN X1.here hx rfl (hb hby d38_6) rfl (XS.isub X1.here hx rfl (hb hby d38_7) rfl (XS.istoreN X1.here hx rfl (hb hby d38_8) rfl (l' := #[rv t, iv p2, iv p3, iv (p3 - p2), .unset]) rfl (XS.iloadN X1.here hx rfl (hb hby d38_9) rfl k))))) ?_
  show own_Go p e below s _ _ _ (T1.setTop (mkF m 10 #[rv t, iv p2, iv p3, iv (p3 - p2), .unset] [(.int (p3 - p2))]))
  obtain ⟨T4, h4, k4, X4, e4, E4, A4, st4⟩ := newP (aty := .byte) X1 hx hZ (ow24 hw) Kc2 (g := (mkF m 10 #[rv t, iv p2, iv p3, iv (p3 - p2), .unset] [(.int (p3 - p2))])) rfl (hb hby d38_10) rfl (own_cp3 hrg) (cap := 16) (own_cp7 hrg) (by decide) (by show _ ≤ 1; omega) (by show _ ≤ 16; omega)
  obtain ⟨b4, g4⟩ : ∃ z, z = h0.size := ⟨_, rfl⟩
  rw [← g4] at A4 st4
  refine own_go st4 ?_
  clear st4 X1 Kc2
  have ge4 := Nat.le_of_eq g4.symm
  have big5 : Z.heap.size ≤ b4 := Nat.le_trans O0.1 ge4
  have sz6 : h0.size ≤ b4 := Nat.le_trans K0.1 ge4
  replace O0 := own_oldExt O0 E4
  replace K0 := K0.ext E4
  clear E4
  have f7 : Arv Z h4 b4 k4 .byte (p3 - p2) (List.replicate 16 (Value.int (0 : Int32))) (.int (0 : Int32)) := (Arv.new A4 (own_cp3 hrg)).pad (pad_rep [] (.int (0 : Int32)) 16)
  refine own_go (fun _ k => XS.astore X4.here hx rfl (hb hby d38_12) rfl rfl (l' := #[rv t, iv p2, iv p3, iv (p3 - p2), rv b4]) rfl (XS.aloadN X4.here hx rfl (hb hby d38_14) rfl rfl (XS.iloadN X4.here hx rfl (hb hby d38_15) rfl (XS.aload X4.here hx rfl (hb hby d38_16) rfl rfl (XS.iconst X4.here hx rfl (hb hby d38_18) (XS.aloadN X4.here hx rfl (hb hby d38_19) rfl rfl k)))))) ?_
  show own_Go p e below s _ _ _ (T4.setTop (mkF m 20 #[rv t, iv p2, iv p3, iv (p3 - p2), rv b4] [(.ref t), (.int (0 : Int32)), (.ref b4), (.int p2), (.ref t)]))
  obtain ⟨cl8, Ar8, -, S8, M8, -, -⟩ := id (fp0.keep K0 nin0)
  refine own_go (X4.arraylength hx (by rw [e4]; exact Ar8.1) (State.isArrayOf_alike hZ.alike Ar8.2.1) (g := (mkF m 20 #[rv t, iv p2, iv p3, iv (p3 - p2), rv b4] [(.ref t), (.int (0 : Int32)), (.ref b4), (.int p2), (.ref t)])) rfl rfl (hb hby d38_20)) ?_
  rw [len_of S8 M8]
  refine own_go (fun _ k => XS.iloadN X4.here hx rfl (hb hby d38_21) rfl (XS.isub X4.here hx rfl (hb hby d38_22) rfl (XS.iloadN X4.here hx rfl (hb hby d38_23) rfl k))) ?_
  obtain ⟨v9, T9, L9, X9, hQ9, st9⟩ := own_callS (y := own_y15) X4 hx hZ hown (ow180 hw) (ow109 hw) (ow106 hw) (ow110 hw) (rm_mini l Z a0 hw hO [] (nz - p2) (p3 - p2) h4 O0) 4 0 0 (by show _ ≤ 1; omega) (by show _ ≤ 16; omega) e4 (g := (mkF m 24 #[rv t, iv p2, iv p3, iv (p3 - p2), rv b4] [(.int (p3 - p2)), (.int (nz - p2)), (.int (0 : Int32)), (.ref b4), (.int p2), (.ref t)])) rfl (by rw [hml]; rfl) [(.int (nz - p2)), (.int (p3 - p2))] [(.int (0 : Int32)), (.ref b4), (.int p2), (.ref t)] (lenOf own_pd_10 rfl) rfl rfl (hb hby d38_24)
  rcases hQ9 with hQ9 | hQ9
  · obtain ⟨rfl, Nc12, hp10, Kc11⟩ := hQ9
    refine own_go st9 ?_
    clear st9 X4 e4
    replace N0 := Fr.app N0 Nc12
    clear Nc12
    show own_Go p e below s _ _ _ (T9.setTop (mkF m 27 #[rv t, iv p2, iv p3, iv (p3 - p2), rv b4] [(.int (p3 - p2)), (.int (0 : Int32)), (.ref b4), (.int p2), (.ref t)]))
    have pd13 := (f7).pad (pad_rep _ (.int (0 : Int32)) 16)
    obtain ⟨T13, h13, L13, X13, e13, Nn13, Kn13, Fn13, st13⟩ := cpA X9 hx hZ hown (ow181 hw) (ow184 hw) (ow182 hw) (ow183 hw) Kc11 (fp0.keep K0 nin0) pd13 (Or.inl ⟨rfl, rfl⟩) hrg.1 (by decide) (own_cp3 hrg) (own_cp4 hrg) (own_cp5 hrg) rfl (own_cp6 hrg) N0 big5 (g := (mkF m 27 #[rv t, iv p2, iv p3, iv (p3 - p2), rv b4] [(.int (p3 - p2)), (.int (0 : Int32)), (.ref b4), (.int p2), (.ref t)])) rfl (by rw [hml]; rfl) rfl (hb hby d38_27) (by decide) (W := 0) (Nat.le_of_eq rfl) (by decide)
    refine own_go st13 ?_
    clear st13 X9 Kc11
    replace N0 := Nn13
    clear f7
    replace O0 := own_oldKeep O0 Kn13 (allS big5 all0)
    replace K0 := K0.trans Kn13 (allS (Or.inr sz6) all0)
    clear Kn13
    refine own_go (fun _ k => XS.aload X13.here hx rfl (hb hby d38_30) rfl rfl k) ?_
    show own_Go p e below s _ _ _ (T13.setTop (mkF m 32 #[rv t, iv p2, iv p3, iv (p3 - p2), rv b4] [(.ref b4)]))
    refine own_retA X13 hx hlk e13 hret rfl rfl (hb hby d38_32) (by show _ ≤ 1; omega) (by show _ ≤ 16; omega) ?_
    exact ⟨b4, k4, _, rfl, N0, K0, sz6, Fn13⟩
  · obtain ⟨rfl, Nc16, hp14, Kc15⟩ := hQ9
    refine own_go st9 ?_
    clear st9 X4 e4
    replace N0 := Fr.app N0 Nc16
    clear Nc16
    show own_Go p e below s _ _ _ (T9.setTop (mkF m 27 #[rv t, iv p2, iv p3, iv (p3 - p2), rv b4] [(.int (nz - p2)), (.int (0 : Int32)), (.ref b4), (.int p2), (.ref t)]))
    have pd17 := (f7).pad (pad_rep _ (.int (0 : Int32)) 16)
    obtain ⟨T17, h17, L17, X17, e17, Nn17, Kn17, Fn17, st17⟩ := cpA X9 hx hZ hown (ow181 hw) (ow184 hw) (ow182 hw) (ow183 hw) Kc15 (fp0.keep K0 nin0) pd17 (Or.inl ⟨rfl, rfl⟩) hrg.1 (by decide) (own_cp3B hrg hp14) (own_cp4B hrg hp14) (own_cp5B hrg hp14) rfl (own_cp6B hrg hp14) N0 big5 (g := (mkF m 27 #[rv t, iv p2, iv p3, iv (p3 - p2), rv b4] [(.int (nz - p2)), (.int (0 : Int32)), (.ref b4), (.int p2), (.ref t)])) rfl (by rw [hml]; rfl) rfl (hb hby d38_27) (by decide) (W := 0) (Nat.le_of_eq rfl) (by decide)
    refine own_go st17 ?_
    clear st17 X9 Kc15
    replace N0 := Nn17
    clear f7
    replace O0 := own_oldKeep O0 Kn17 (allS big5 all0)
    replace K0 := K0.trans Kn17 (allS (Or.inr sz6) all0)
    clear Kn17
    refine own_go (fun _ k => XS.aload X17.here hx rfl (hb hby d38_30) rfl rfl k) ?_
    show own_Go p e below s _ _ _ (T17.setTop (mkF m 32 #[rv t, iv p2, iv p3, iv (p3 - p2), rv b4] [(.ref b4)]))
    refine own_retA X17 hx hlk e17 hret rfl rfl (hb hby d38_32) (by show _ ≤ 1; omega) (by show _ ≤ 16; omega) ?_
    exact ⟨b4, k4, _, rfl, N0, K0, sz6, Fn17⟩
theorem d37_0 : decode jdk_65_method_132_code 0 = .ok (.iload_n 1, 1) := by decide +kernel
theorem d37_1 : decode jdk_65_method_132_code 1 = .ok (.ifCond .ne 9, 3) := by decide +kernel
theorem d37_4 : decode jdk_65_method_132_code 4 = .ok (.iload_n 2, 1) := by decide +kernel
theorem d37_5 : decode jdk_65_method_132_code 5 = .ok (.aload_n 0, 1) := by decide +kernel
theorem d37_6 : decode jdk_65_method_132_code 6 = .ok (.arraylength, 1) := by decide +kernel
theorem d37_7 : decode jdk_65_method_132_code 7 = .ok (.if_icmp .eq 10, 3) := by decide +kernel
theorem d37_10 : decode jdk_65_method_132_code 10 = .ok (.aload_n 0, 1) := by decide +kernel
theorem d37_11 : decode jdk_65_method_132_code 11 = .ok (.iload_n 1, 1) := by decide +kernel
theorem d37_12 : decode jdk_65_method_132_code 12 = .ok (.iload_n 2, 1) := by decide +kernel
theorem d37_13 : decode jdk_65_method_132_code 13 = .ok (.invokestatic 339, 3) := by decide +kernel
theorem d37_16 : decode jdk_65_method_132_code 16 = .ok (.areturn, 1) := by decide +kernel
def Q_crG (Z : State) (zc : Int32) (wsf : Value) (t : Addr) (p2 : Int32) (p3 : Int32) (kt : ClassId) (nz : Int32) (vl : List Value) (h0 : Heap) (v : Option Value) (h : Heap) (L : List Loc) : Prop := (∃ b : Addr, ∃ k2 : ClassId, ∃ ls : List Value, v = some (.ref b) ∧ Fr Z.heap.size L ∧ Keep h0 h [] ∧ h0.size ≤ b ∧ Arv Z h b k2 .byte (p3 - p2) ls (.int (0 : Int32)))
theorem ef_crG (m : MethodId) (x0 : Addr) (x1 : Int32) (x2 : Int32) : entryFrame m #[(.ref x0), (.int x1), (.int x2)] 3 = mkF m 0 #[rv x0, iv x1, iv x2] [] := by first | (simp [entryFrame, mkF, argsToLocals, Value.category]; done) | rfl
set_option maxRecDepth 65536 in
set_option maxHeartbeats 40000000 in
theorem rm_crG (l : Launch) (Z : State) (a0 : Array Value) (hw : own_W Z a0) {zc : Int32} {wsf : Value} (hO : own_Olds Z zc wsf) (ws : List Jvm.Cond) (t : Addr) (p2 : Int32) (p3 : Int32) (kt : ClassId) (nz : Int32) (vl : List Value) (h0 : Heap) (O0 : Ext Z.heap h0) (fp0 : Arv Z h0 t kt .byte nz vl (.int (0 : Int32))) (hrg : own_Rg p2 p3 nz) (hcf : ¬ (p2 = (0 : Int32) ∧ p3 = nz)) :
    own_MF l Z h0 own_y25 jdk_65_method_132_code 3 (some (.array .byte)) ({ frames := 3, cells := 1, slots := 16, locals := 46 } : Room) #[(.ref t), (.int p2), (.int p3)] (Q_crG Z zc wsf t p2 p3 kt nz vl h0) ws := by
  refine own_met (Q := (Q_crG Z zc wsf t p2 p3 kt nz vl h0)) _ _ (plainFor_of_name own_pn_6) ?_
  intro p e s m below meth c T X0 hx hby hml hret hlk hZ hown hnm e0
  replace hown : s.vm.findClass "java/util/Arrays" = some m.cls := hown
  replace hnm : meth.name = "copyOfRange" := hnm
  have hml : c.maxLocals = 3 := hml
  obtain ⟨oCS, oCz, oSF, r_wsf⟩ := id hO
  have N0 := Fr.nil Z.heap.size
  have K0 := Keep.refl h0 []
  refine own_go (fun _ k => castTop (ef_crG m t p2 p3) k) ?_
  show own_Go p e below s _ _ _ (T.setTop (mkF m 0 #[rv t, iv p2, iv p3] []))
  refine own_go (fun _ k => XS.iloadN X0.here hx rfl (hb hby d37_0) rfl k) ?_
  by_cases hc1 : p2 = (0 : Int32)
  · refine own_go (fun _ k => XS.ifNo X0.here hx rfl (hb hby d37_1) rfl ((if0 _ _).trans (teq hc1).2) k) ?_
    show own_Go p e below s _ _ _ (T.setTop (mkF m 4 #[rv t, iv p2, iv p3] []))
    refine own_go (fun _ k => XS.iloadN X0.here hx rfl (hb hby d37_4) rfl (XS.aloadN X0.here hx rfl (hb hby d37_5) rfl rfl k)) ?_
    show own_Go p e below s _ _ _ (T.setTop (mkF m 6 #[rv t, iv p2, iv p3] [(.ref t), (.int p3)]))
    obtain ⟨cl2, Ar2, -, S2, M2, -, -⟩ := id (fp0.keep K0 nin0)
    refine own_go (X0.arraylength hx (by rw [e0]; exact Ar2.1) (State.isArrayOf_alike hZ.alike Ar2.2.1) (g := (mkF m 6 #[rv t, iv p2, iv p3] [(.ref t), (.int p3)])) rfl rfl (hb hby d37_6)) ?_
    rw [len_of S2 M2]
    refine own_go (fun _ k => XS.icmpNo X0.here hx rfl (hb hby d37_7) rfl (feq (fun q => hcf ⟨hc1, q⟩)).1 (XS.aloadN X0.here hx rfl (hb hby d37_10) rfl rfl (XS.iloadN X0.here hx rfl (hb hby d37_11) rfl (XS.iloadN X0.here hx rfl (hb hby d37_12) rfl k)))) ?_
    obtain ⟨v3, T3, L3, X3, hQ3, st3⟩ := own_callS (y := own_y24) X0 hx hZ hown (ow174 hw) (ow175 hw) (ow172 hw) (ow176 hw) (rm_crbG l Z a0 hw hO [] t p2 p3 kt nz (vl : List Value) h0 O0 (fp0.keep K0 nin0) hrg) 0 1 16 (by show _ ≤ 1; omega) (by show _ ≤ 16; omega) e0 (g := (mkF m 13 #[rv t, iv p2, iv p3] [(.int p3), (.int p2), (.ref t)])) rfl (by rw [hml]; rfl) [(.ref t), (.int p2), (.int p3)] [] (lenOf own_pd_14 rfl) rfl rfl (hb hby d37_13)
    obtain ⟨w4, w5, w6, rfl, Nc10, Kc9, hb7, f8⟩ := hQ3
    refine own_go st3 ?_
    clear st3 X0 e0
    replace N0 := Fr.app N0 Nc10
    clear Nc10
    have big11 : Z.heap.size ≤ w4 := Nat.le_trans O0.1 hb7
    have sz12 : h0.size ≤ w4 := Nat.le_trans K0.1 hb7
    replace O0 := own_oldKeep O0 Kc9 all0
    replace K0 := K0.trans Kc9 all0
    clear Kc9
    show own_Go p e below s _ _ _ (T3.setTop (mkF m 16 #[rv t, iv p2, iv p3] [(.ref w4)]))
    refine own_retA X3 hx hlk (rfl : T3.heap = T3.heap) hret rfl rfl (hb hby d37_16) (by show _ ≤ 1; omega) (by show _ ≤ 16; omega) ?_
    exact ⟨w4, w5, w6, rfl, N0, K0, sz12, f8⟩
  · refine own_go (fun _ k => XS.ifYes X0.here hx rfl (pc0 := 1) (pc' := 10) rfl (hb hby d37_1) rfl ((if0 _ _).trans (feq hc1).2) (by decide) (by decide) k) ?_
    show own_Go p e below s _ _ _ (T.setTop (mkF m 10 #[rv t, iv p2, iv p3] []))
    refine own_go (fun _ k => XS.aloadN X0.here hx rfl (hb hby d37_10) rfl rfl (XS.iloadN X0.here hx rfl (hb hby d37_11) rfl (XS.iloadN X0.here hx rfl (hb hby d37_12) rfl k))) ?_
    obtain ⟨v13, T13, L13, X13, hQ13, st13⟩ := own_callS (y := own_y24) X0 hx hZ hown (ow174 hw) (ow175 hw) (ow172 hw) (ow176 hw) (rm_crbG l Z a0 hw hO [] t p2 p3 kt nz (vl : List Value) h0 O0 (fp0.keep K0 nin0) hrg) 0 1 16 (by show _ ≤ 1; omega) (by show _ ≤ 16; omega) e0 (g := (mkF m 13 #[rv t, iv p2, iv p3] [(.int p3), (.int p2), (.ref t)])) rfl (by rw [hml]; rfl) [(.ref t), (.int p2), (.int p3)] [] (lenOf own_pd_14 rfl) rfl rfl (hb hby d37_13)
    obtain ⟨w14, w15, w16, rfl, Nc20, Kc19, hb17, f18⟩ := hQ13
    refine own_go st13 ?_
    clear st13 X0 e0
    replace N0 := Fr.app N0 Nc20
    clear Nc20
    have big21 : Z.heap.size ≤ w14 := Nat.le_trans O0.1 hb17
    have sz22 : h0.size ≤ w14 := Nat.le_trans K0.1 hb17
    replace O0 := own_oldKeep O0 Kc19 all0
    replace K0 := K0.trans Kc19 all0
    clear Kc19
    show own_Go p e below s _ _ _ (T13.setTop (mkF m 16 #[rv t, iv p2, iv p3] [(.ref w14)]))
    refine own_retA X13 hx hlk (rfl : T13.heap = T13.heap) hret rfl rfl (hb hby d37_16) (by show _ ≤ 1; omega) (by show _ ≤ 16; omega) ?_
    exact ⟨w14, w15, w16, rfl, N0, K0, sz22, f18⟩
theorem d40_0 : decode jdk_42_method_151_code 0 = .ok (.aload_n 0, 1) := by decide +kernel
theorem d40_1 : decode jdk_42_method_151_code 1 = .ok (.invokespecial 1, 3) := by decide +kernel
theorem d40_4 : decode jdk_42_method_151_code 4 = .ok (.aload_n 0, 1) := by decide +kernel
theorem d40_5 : decode jdk_42_method_151_code 5 = .ok (.aload_n 1, 1) := by decide +kernel
theorem d40_6 : decode jdk_42_method_151_code 6 = .ok (.putfield 9, 3) := by decide +kernel
theorem d40_9 : decode jdk_42_method_151_code 9 = .ok (.aload_n 0, 1) := by decide +kernel
theorem d40_10 : decode jdk_42_method_151_code 10 = .ok (.iload_n 2, 1) := by decide +kernel
theorem d40_11 : decode jdk_42_method_151_code 11 = .ok (.putfield 15, 3) := by decide +kernel
theorem d40_14 : decode jdk_42_method_151_code 14 = .ok (.return_, 1) := by decide +kernel
def Q_stBB (Z : State) (zc : Int32) (wsf : Value) (a1 : Addr) (a2 : Addr) (h0 : Heap) (v : Option Value) (h : Heap) (L : List Loc) : Prop := (v = none ∧ Fr Z.heap.size L ∧ Keep h0 h [a1] ∧ Exa Z h a1 "java/lang/String" ∧ Fld Z h a1 "java/lang/String" "value" "[B" (.ref a2) ∧ Fld Z h a1 "java/lang/String" "coder" "B" (.int (0 : Int32)))
theorem ef_stBB (m : MethodId) (x0 : Addr) (x1 : Addr) : entryFrame m #[(.ref x0), (.ref x1), (.int (0 : Int32))] 3 = mkF m 0 #[rv x0, rv x1, iv (0 : Int32)] [] := by first | (simp [entryFrame, mkF, argsToLocals, Value.category]; done) | rfl
set_option maxRecDepth 65536 in
set_option maxHeartbeats 40000000 in
theorem rm_stBB (l : Launch) (Z : State) (a0 : Array Value) (hw : own_W Z a0) {zc : Int32} {wsf : Value} (hO : own_Olds Z zc wsf) (ws : List Jvm.Cond) (a1 : Addr) (a2 : Addr) (h0 : Heap) (O0 : Ext Z.heap h0) (fp0 : Exa Z h0 a1 "java/lang/String") (fp1 : Fld Z h0 a1 "java/lang/String" "value" "[B" .null) (fp2 : Fld Z h0 a1 "java/lang/String" "coder" "B" (.int (0 : Int32))) (big_a1 : Z.heap.size ≤ a1) :
    own_MF l Z h0 own_y26 jdk_42_method_151_code 3 none ({ frames := 1, cells := 0, slots := 0, locals := 12 } : Room) #[(.ref a1), (.ref a2), (.int (0 : Int32))] (Q_stBB Z zc wsf a1 a2 h0) ws := by
  refine own_met (Q := (Q_stBB Z zc wsf a1 a2 h0)) _ _ (plainFor_of_name own_pn_0) ?_
  intro p e s m below meth c T X0 hx hby hml hret hlk hZ hown hnm e0
  replace hown : s.vm.findClass "java/lang/String" = some m.cls := hown
  replace hnm : meth.name = "<init>" := hnm
  have hml : c.maxLocals = 3 := hml
  obtain ⟨oCS, oCz, oSF, r_wsf⟩ := id hO
  have N0 := Fr.nil Z.heap.size
  have K0 := Keep.refl h0 [a1]
  refine own_go (fun _ k => castTop (ef_stBB m a1 a2) k) ?_
  show own_Go p e below s _ _ _ (T.setTop (mkF m 0 #[rv a1, rv a2, iv (0 : Int32)] []))
  refine own_go (fun _ k => XS.aloadN X0.here hx rfl (hb hby d40_0) rfl rfl k) ?_
  obtain ⟨T1, X1, e1, st1⟩ := initO X0 hx hZ hown (ow16 hw) (ow17 hw) (ow18 hw) e0 (g := (mkF m 1 #[rv a1, rv a2, iv (0 : Int32)] [(.ref a1)])) rfl (by rw [hml]; rfl) rfl (hb hby d40_1) (by decide) (W := 0) (by show 2 * 0 + _ ≤ _; exact Nat.le_of_eq rfl) (by decide)
  refine own_go st1 ?_
  clear st1 X0 e0
  refine own_go (fun _ k => XS.aloadN X1.here hx rfl (hb hby d40_4) rfl rfl (XS.aloadN X1.here hx rfl (hb hby d40_5) rfl rfl k)) ?_
  obtain ⟨T2, h2, X2, e2, W2, st2⟩ := putF X1 hx hZ hown (host := "") (Or.inl (ow33 hw)) Via.refl e1 fp1 fp0 (Or.inr ⟨(ow34 hw), rfl, hnm⟩) (ow6 hw) (ty := (.array .byte)) own_fd0 rfl rfl (g := (mkF m 6 #[rv a1, rv a2, iv (0 : Int32)] [(.ref a2), (.ref a1)])) rfl rfl (hb hby d40_6)
  refine own_go st2 ?_
  clear st2 X1 e1
  replace N0 := Fr.snoc X2 N0 big_a1
  replace fp0 := fp0.wr W2
  replace fp1 := fp1.same W2
  replace fp2 := fp2.other W2 (.inr (own_sn0 hw))
  replace O0 := own_oldWr O0 W2 big_a1
  replace K0 := K0.wr W2 (Or.inl (List.mem_of_getElem? (i := 0) rfl))
  clear W2
  refine own_go (fun _ k => XS.aloadN X2.here hx rfl (hb hby d40_9) rfl rfl (XS.iloadN X2.here hx rfl (hb hby d40_10) rfl k)) ?_
  obtain ⟨T3, h3, X3, e3, W3, st3⟩ := putFN X2 hx hZ hown (ow31 hw) Via.refl e2 fp2 fp0 (Or.inr ⟨(ow32 hw), rfl, hnm⟩) (ow6 hw) (ty := .byte) (v' := (.int (0 : Int32))) own_fd1 rfl (by decide) (g := (mkF m 11 #[rv a1, rv a2, iv (0 : Int32)] [(.int (0 : Int32)), (.ref a1)])) rfl rfl (hb hby d40_11)
  refine own_go st3 ?_
  clear st3 X2 e2
  replace N0 := Fr.snoc X3 N0 big_a1
  replace fp0 := fp0.wr W3
  replace fp1 := fp1.other W3 (.inr (own_sn0 hw).symm)
  replace fp2 := fp2.same W3
  replace O0 := own_oldWr O0 W3 big_a1
  replace K0 := K0.wr W3 (Or.inl (List.mem_of_getElem? (i := 0) rfl))
  clear W3
  show own_Go p e below s _ _ _ (T3.setTop (mkF m 14 #[rv a1, rv a2, iv (0 : Int32)] []))
  refine own_retV X3 hx hlk e3 hret (hb hby d40_14) (by show _ ≤ 0; omega) (by show _ ≤ 0; omega) ?_
  exact ⟨rfl, N0, K0, fp0, fp1, fp2⟩
theorem d36_0 : decode jdk_43_method_47_code 0 = .ok (.iload_n 2, 1) := by decide +kernel
theorem d36_1 : decode jdk_43_method_47_code 1 = .ok (.ifCond .ne 6, 3) := by decide +kernel
theorem d36_7 : decode jdk_43_method_47_code 7 = .ok (.new 1, 3) := by decide +kernel
theorem d36_10 : decode jdk_43_method_47_code 10 = .ok (.dup, 1) := by decide +kernel
theorem d36_11 : decode jdk_43_method_47_code 11 = .ok (.aload_n 0, 1) := by decide +kernel
theorem d36_12 : decode jdk_43_method_47_code 12 = .ok (.iload_n 1, 1) := by decide +kernel
theorem d36_13 : decode jdk_43_method_47_code 13 = .ok (.iload_n 1, 1) := by decide +kernel
theorem d36_14 : decode jdk_43_method_47_code 14 = .ok (.iload_n 2, 1) := by decide +kernel
theorem d36_15 : decode jdk_43_method_47_code 15 = .ok (.iadd, 1) := by decide +kernel
theorem d36_16 : decode jdk_43_method_47_code 16 = .ok (.invokestatic 232, 3) := by decide +kernel
theorem d36_19 : decode jdk_43_method_47_code 19 = .ok (.iconst 0, 1) := by decide +kernel
theorem d36_20 : decode jdk_43_method_47_code 20 = .ok (.invokespecial 112, 3) := by decide +kernel
theorem d36_23 : decode jdk_43_method_47_code 23 = .ok (.areturn, 1) := by decide +kernel
def Q_nsG (Z : State) (zc : Int32) (wsf : Value) (t : Addr) (p2 : Int32) (p3 : Int32) (kt : ClassId) (nz : Int32) (vl : List Value) (h0 : Heap) (v : Option Value) (h : Heap) (L : List Loc) : Prop := (∃ b : Addr, ∃ u : Addr, ∃ ku : ClassId, ∃ ls : List Value, v = some (.ref b) ∧ Fr Z.heap.size L ∧ Keep h0 h [] ∧ h0.size ≤ b ∧ Exa Z h b "java/lang/String" ∧ Fld Z h b "java/lang/String" "value" "[B" (.ref u) ∧ Fld Z h b "java/lang/String" "coder" "B" (.int (0 : Int32)) ∧ Arv Z h u ku .byte p3 ls (.int (0 : Int32)))
theorem ef_nsG (m : MethodId) (x0 : Addr) (x1 : Int32) (x2 : Int32) : entryFrame m #[(.ref x0), (.int x1), (.int x2)] 3 = mkF m 0 #[rv x0, iv x1, iv x2] [] := by first | (simp [entryFrame, mkF, argsToLocals, Value.category]; done) | rfl
set_option maxRecDepth 65536 in
set_option maxHeartbeats 40000000 in
theorem rm_nsG (l : Launch) (Z : State) (a0 : Array Value) (hw : own_W Z a0) {zc : Int32} {wsf : Value} (hO : own_Olds Z zc wsf) (ws : List Jvm.Cond) (t : Addr) (p2 : Int32) (p3 : Int32) (kt : ClassId) (nz : Int32) (vl : List Value) (h0 : Heap) (O0 : Ext Z.heap h0) (fp0 : Arv Z h0 t kt .byte nz vl (.int (0 : Int32))) (hrg : own_Rg p2 (p2 + p3) nz) (hl0 : ¬ (p3 = (0 : Int32))) (hcf : ¬ (p2 = (0 : Int32) ∧ (p2 + p3) = nz)) :
    own_MF l Z h0 own_y27 jdk_43_method_47_code 3 (some (.object "java/lang/String")) ({ frames := 4, cells := 2, slots := 20, locals := 62 } : Room) #[(.ref t), (.int p2), (.int p3)] (Q_nsG Z zc wsf t p2 p3 kt nz vl h0) ws := by
  refine own_met (Q := (Q_nsG Z zc wsf t p2 p3 kt nz vl h0)) _ _ (plainFor_of_name own_pn_3) ?_
  intro p e s m below meth c T X0 hx hby hml hret hlk hZ hown hnm e0
  replace hown : s.vm.findClass "java/lang/StringLatin1" = some m.cls := hown
  replace hnm : meth.name = "newString" := hnm
  have hml : c.maxLocals = 3 := hml
  obtain ⟨oCS, oCz, oSF, r_wsf⟩ := id hO
  have N0 := Fr.nil Z.heap.size
  have K0 := Keep.refl h0 []
  refine own_go (fun _ k => castTop (ef_nsG m t p2 p3) k) ?_
  show own_Go p e below s _ _ _ (T.setTop (mkF m 0 #[rv t, iv p2, iv p3] []))
  refine own_go (fun _ k => XS.iloadN X0.here hx rfl (hb hby d36_0) rfl (XS.ifYes X0.here hx rfl (pc0 := 1) (pc' := 7) rfl (hb hby d36_1) rfl ((if0 _ _).trans (feq hl0).2) (by decide) (by decide) k)) ?_
  obtain ⟨T1, h1, X1, e1, E1, A1, D1, -, st1⟩ := newO X0 hx hZ hown (ow169 hw) (ow6 hw) (ow7 hw) e0 (g := (mkF m 7 #[rv t, iv p2, iv p3] [])) rfl (hb hby d36_7) (by show _ ≤ 2; omega) (by show _ ≤ 20; omega)
  obtain ⟨b1, g1⟩ : ∃ z, z = h0.size := ⟨_, rfl⟩
  rw [← g1] at A1 D1 st1
  refine own_go st1 ?_
  clear st1 X0 e0
  have ge1 := Nat.le_of_eq g1.symm
  have big2 : Z.heap.size ≤ b1 := Nat.le_trans O0.1 ge1
  have sz3 : h0.size ≤ b1 := Nat.le_trans K0.1 ge1
  replace O0 := own_oldExt O0 E1
  replace K0 := K0.ext E1
  clear E1
  have f4 : Fld Z h1 b1 "java/lang/String" "coder" "B" (.int (0 : Int32)) := D1 (Or.inr (ow32 hw)) (ty := .byte) own_fd1
  have f5 : Fld Z h1 b1 "java/lang/String" "value" "[B" .null := D1 (Or.inr (ow34 hw)) (ty := (.array .byte)) own_fd0
  refine own_go (fun _ k => XS.dup X1.here hx rfl (hb hby d36_10) rfl rfl (XS.aloadN X1.here hx rfl (hb hby d36_11) rfl rfl (XS.iloadN X1.here hx rfl (hb hby d36_12) rfl (XS.iloadN X1.here hx rfl (hb hby d36_13) rfl (XS.iloadN X1.here hx rfl (hb hby d36_14) rfl k))))) ?_
  show own_Go p e below s _ _ _ (T1.setTop (mkF m 15 #[rv t, iv p2, iv p3] [(.int p3), (.int p2), (.int p2), (.ref t), (.ref b1), (.ref b1)]))
  refine own_go (fun _ k => XS.iadd X1.here hx rfl (hb hby d36_15) rfl k) ?_
  obtain ⟨v6, T6, L6, X6, hQ6, st6⟩ := own_callS (y := own_y25) X1 hx hZ hown (ow170 hw) (ow171 hw) (ow172 hw) (ow173 hw) (rm_crG l Z a0 hw hO [] t p2 (p2 + p3) kt nz (vl : List Value) h1 O0 (fp0.keep K0 nin0) hrg hcf) 2 1 16 (by show _ ≤ 2; omega) (by show _ ≤ 20; omega) e1 (g := (mkF m 16 #[rv t, iv p2, iv p3] [(.int (p2 + p3)), (.int p2), (.ref t), (.ref b1), (.ref b1)])) rfl (by rw [hml]; rfl) [(.ref t), (.int p2), (.int (p2 + p3))] [(.ref b1), (.ref b1)] (lenOf own_pd_14 rfl) rfl rfl (hb hby d36_16)
  obtain ⟨w7, w8, w9, rfl, Nc13, Kc12, hb10, f11⟩ := hQ6
  refine own_go st6 ?_
  clear st6 X1 e1
  replace N0 := Fr.app N0 Nc13
  clear Nc13
  have ne14 : b1 ≠ w7 := Nat.ne_of_lt (Nat.lt_of_lt_of_le A1.lt hb10)
  have big15 : Z.heap.size ≤ w7 := Nat.le_trans O0.1 hb10
  have sz16 : h0.size ≤ w7 := Nat.le_trans K0.1 hb10
  replace A1 := A1.keep Kc12
  replace f4 := f4.keep Kc12 nin0
  replace f5 := f5.keep Kc12 nin0
  replace O0 := own_oldKeep O0 Kc12 all0
  replace K0 := K0.trans Kc12 all0
  clear Kc12
  refine own_go (fun _ k => XS.iconst X6.here hx rfl (hb hby d36_19) k) ?_
  obtain ⟨v17, T17, L17, X17, hQ17, st17⟩ := own_callI (y := own_y26) X6 hx hZ hown (ow185 hw) (ow186 hw) (ow7 hw) (ow187 hw) (rm_stBB l Z a0 hw hO [] b1 w7 T6.heap O0 A1 f5 f4 big2) 1 0 0 rfl (by show _ ≤ 2; omega) (by show _ ≤ 20; omega) (rfl : T6.heap = T6.heap) (g := (mkF m 20 #[rv t, iv p2, iv p3] [(.int (0 : Int32)), (.ref w7), (.ref b1), (.ref b1)])) rfl (by rw [hml]; rfl) b1 [(.ref w7), (.int (0 : Int32))] [(.ref b1)] (lenOf own_pd_15 rfl) rfl rfl (hb hby d36_20)
  obtain ⟨rfl, Nc22, Kc21, f18, f19, f20⟩ := hQ17
  refine own_go st17 ?_
  clear st17 X6
  replace N0 := Fr.app N0 Nc22
  clear Nc22
  replace A1 := A1.keep Kc21
  clear f4
  clear f5
  replace f11 := f11.keep Kc21 (ninS ne14.symm nin0)
  replace O0 := own_oldKeep O0 Kc21 (allS big2 all0)
  replace K0 := K0.trans Kc21 (allS (Or.inr sz3) all0)
  clear Kc21
  show own_Go p e below s _ _ _ (T17.setTop (mkF m 23 #[rv t, iv p2, iv p3] [(.ref b1)]))
  rw [own_as p2 p3] at f11
  refine own_retA X17 hx hlk (rfl : T17.heap = T17.heap) hret rfl rfl (hb hby d36_23) (by show _ ≤ 2; omega) (by show _ ≤ 20; omega) ?_
  exact ⟨b1, w7, w8, w9, rfl, N0, K0, sz3, f18, f19, f20, f11⟩
theorem d30_0 : decode jdk_42_method_92_code 0 = .ok (.aload_n 0, 1) := by decide +kernel
theorem d30_1 : decode jdk_42_method_92_code 1 = .ok (.invokevirtual 505, 3) := by decide +kernel
theorem d30_4 : decode jdk_42_method_92_code 4 = .ok (.istore_n 3, 1) := by decide +kernel
theorem d30_5 : decode jdk_42_method_92_code 5 = .ok (.iload_n 1, 1) := by decide +kernel
theorem d30_6 : decode jdk_42_method_92_code 6 = .ok (.iload_n 2, 1) := by decide +kernel
theorem d30_7 : decode jdk_42_method_92_code 7 = .ok (.iload_n 3, 1) := by decide +kernel
theorem d30_8 : decode jdk_42_method_92_code 8 = .ok (.invokestatic 521, 3) := by decide +kernel
theorem d30_11 : decode jdk_42_method_92_code 11 = .ok (.iload_n 1, 1) := by decide +kernel
theorem d30_12 : decode jdk_42_method_92_code 12 = .ok (.ifCond .ne 10, 3) := by decide +kernel
theorem d30_15 : decode jdk_42_method_92_code 15 = .ok (.iload_n 2, 1) := by decide +kernel
theorem d30_16 : decode jdk_42_method_92_code 16 = .ok (.iload_n 3, 1) := by decide +kernel
theorem d30_17 : decode jdk_42_method_92_code 17 = .ok (.if_icmp .ne 5, 3) := by decide +kernel
theorem d30_22 : decode jdk_42_method_92_code 22 = .ok (.iload_n 2, 1) := by decide +kernel
theorem d30_23 : decode jdk_42_method_92_code 23 = .ok (.iload_n 1, 1) := by decide +kernel
theorem d30_24 : decode jdk_42_method_92_code 24 = .ok (.isub, 1) := by decide +kernel
theorem d30_25 : decode jdk_42_method_92_code 25 = .ok (.istore 4, 2) := by decide +kernel
theorem d30_27 : decode jdk_42_method_92_code 27 = .ok (.aload_n 0, 1) := by decide +kernel
theorem d30_28 : decode jdk_42_method_92_code 28 = .ok (.invokevirtual 492, 3) := by decide +kernel
theorem d30_31 : decode jdk_42_method_92_code 31 = .ok (.ifCond .eq 16, 3) := by decide +kernel
theorem d30_34 : decode jdk_42_method_92_code 34 = .ok (.aload_n 0, 1) := by decide +kernel
theorem d30_35 : decode jdk_42_method_92_code 35 = .ok (.getfield 9, 3) := by decide +kernel
theorem d30_38 : decode jdk_42_method_92_code 38 = .ok (.iload_n 1, 1) := by decide +kernel
theorem d30_39 : decode jdk_42_method_92_code 39 = .ok (.iload 4, 2) := by decide +kernel
theorem d30_41 : decode jdk_42_method_92_code 41 = .ok (.invokestatic 685, 3) := by decide +kernel
theorem d30_44 : decode jdk_42_method_92_code 44 = .ok (.goto 13, 3) := by decide +kernel
theorem d30_57 : decode jdk_42_method_92_code 57 = .ok (.areturn, 1) := by decide +kernel
def Q_subG (Z : State) (zc : Int32) (wsf : Value) (a1 : Addr) (p2 : Int32) (p3 : Int32) (t : Addr) (kt : ClassId) (nz : Int32) (vl : List Value) (ln : Int32) (h0 : Heap) (v : Option Value) (h : Heap) (L : List Loc) : Prop := (∃ b : Addr, ∃ u : Addr, ∃ ku : ClassId, ∃ ls : List Value, v = some (.ref b) ∧ Fr Z.heap.size L ∧ Keep h0 h [] ∧ h0.size ≤ b ∧ Exa Z h b "java/lang/String" ∧ Fld Z h b "java/lang/String" "value" "[B" (.ref u) ∧ Fld Z h b "java/lang/String" "coder" "B" (.int (0 : Int32)) ∧ Arv Z h u ku .byte ln ls (.int (0 : Int32)))
theorem ef_subG (m : MethodId) (x0 : Addr) (x1 : Int32) (x2 : Int32) : entryFrame m #[(.ref x0), (.int x1), (.int x2)] 5 = mkF m 0 #[rv x0, iv x1, iv x2, .unset, .unset] [] := by first | (simp [entryFrame, mkF, argsToLocals, Value.category]; done) | rfl
set_option maxRecDepth 65536 in
set_option maxHeartbeats 40000000 in
theorem rm_subG (l : Launch) (Z : State) (a0 : Array Value) (hw : own_W Z a0) {zc : Int32} {wsf : Value} (hO : own_Olds Z zc wsf) (ws : List Jvm.Cond) (a1 : Addr) (p2 : Int32) (p3 : Int32) (t : Addr) (kt : ClassId) (nz : Int32) (vl : List Value) (ln : Int32) (h0 : Heap) (O0 : Ext Z.heap h0) (fp0 : Exa Z h0 a1 "java/lang/String") (fp1 : Fld Z h0 a1 "java/lang/String" "value" "[B" (.ref t)) (fp2 : Fld Z h0 a1 "java/lang/String" "coder" "B" (.int (0 : Int32))) (fp3 : Arv Z h0 t kt .byte nz vl (.int (0 : Int32))) (hrg : own_Rg p2 p3 nz) (hln : (p3 - p2) = ln) (hl0 : ¬ (ln = (0 : Int32))) (hrg2 : own_Rg p2 (p2 + ln) nz) (hcf : ¬ (p2 = (0 : Int32) ∧ p3 = nz)) (hcf2 : ¬ (p2 = (0 : Int32) ∧ (p2 + ln) = nz)) :
    own_MF l Z h0 own_y28 jdk_42_method_92_code 5 (some (.object "java/lang/String")) ({ frames := 5, cells := 2, slots := 20, locals := 76 } : Room) #[(.ref a1), (.int p2), (.int p3)] (Q_subG Z zc wsf a1 p2 p3 t kt nz vl ln h0) ws := by
  refine own_met (Q := (Q_subG Z zc wsf a1 p2 p3 t kt nz vl ln h0)) _ _ (plainFor_of_name own_pn_0) ?_
  intro p e s m below meth c T X0 hx hby hml hret hlk hZ hown hnm e0
  replace hown : s.vm.findClass "java/lang/String" = some m.cls := hown
  replace hnm : meth.name = "substring" := hnm
  have hml : c.maxLocals = 5 := hml
  obtain ⟨oCS, oCz, oSF, r_wsf⟩ := id hO
  have N0 := Fr.nil Z.heap.size
  have K0 := Keep.refl h0 []
  refine own_go (fun _ k => castTop (ef_subG m a1 p2 p3) k) ?_
  show own_Go p e below s _ _ _ (T.setTop (mkF m 0 #[rv a1, iv p2, iv p3, .unset, .unset] []))
  refine own_go (fun _ k => XS.aloadN X0.here hx rfl (hb hby d30_0) rfl rfl k) ?_
  obtain ⟨v1, T1, L1, X1, hQ1, st1⟩ := own_callV (y := own_y4) (z := own_y4) X0 hx hZ hown (ow68 hw) (ow69 hw) (notFace_of_selects (args := #[]) (mvT hZ (ow71 hw))) (ow71 hw) (ow70 hw) (ow7 hw) (ow72 hw) (rm_slenG l Z a0 hw hO [] a1 t kt nz (vl : List Value) h0 O0 (fp0.keep K0) (fp1.keep K0 nin0) (fp2.keep K0 nin0) (fp3.keep K0 nin0)) 0 0 0 (by show _ ≤ 2; omega) (by show _ ≤ 20; omega) e0 (fp0.keep K0) (g := (mkF m 1 #[rv a1, iv p2, iv p3, .unset, .unset] [(.ref a1)])) rfl (by rw [hml]; rfl) [] [] (lenOf own_pd_6 rfl) rfl rfl (hb hby d30_1)
  obtain ⟨rfl, Nc3, Kc2⟩ := hQ1
  refine own_go st1 ?_
  clear st1 X0 e0
  replace N0 := Fr.app N0 Nc3
  clear Nc3
  refine own_go (fun _ k => XS.istoreN X1.here hx rfl (hb hby d30_4) rfl (l' := #[rv a1, iv p2, iv p3, iv nz, .unset]) rfl (XS.iloadN X1.here hx rfl (hb hby d30_5) rfl (XS.iloadN X1.here hx rfl (hb hby d30_6) rfl (XS.iloadN X1.here hx rfl (hb hby d30_7) rfl k)))) ?_
  obtain ⟨v4, T4, L4, X4, hQ4, st4⟩ := own_callS (y := own_y22) X1 hx hZ hown (ow139 hw) (ow140 hw) (ow7 hw) (ow141 hw) (rm_cbe l Z a0 hw hO [] p2 p3 nz h0 O0 hrg.1 hrg.2.1 hrg.2.2.1) 0 0 0 (by show _ ≤ 2; omega) (by show _ ≤ 20; omega) Kc2 (g := (mkF m 8 #[rv a1, iv p2, iv p3, iv nz, .unset] [(.int nz), (.int p3), (.int p2)])) rfl (by rw [hml]; rfl) [(.int p2), (.int p3), (.int nz)] [] (lenOf own_pd_16 rfl) rfl rfl (hb hby d30_8)
  obtain ⟨rfl, Nc6, Kc5⟩ := hQ4
  refine own_go st4 ?_
  clear st4 X1 Kc2
  replace N0 := Fr.app N0 Nc6
  clear Nc6
  refine own_go (fun _ k => XS.iloadN X4.here hx rfl (hb hby d30_11) rfl k) ?_
  show own_Go p e below s _ _ _ (T4.setTop (mkF m 12 #[rv a1, iv p2, iv p3, iv nz, .unset] [(.int p2)]))
  by_cases hc7 : p2 = (0 : Int32)
  · refine own_go (fun _ k => XS.ifNo X4.here hx rfl (hb hby d30_12) rfl ((if0 _ _).trans (teq hc7).2) k) ?_
    show own_Go p e below s _ _ _ (T4.setTop (mkF m 15 #[rv a1, iv p2, iv p3, iv nz, .unset] []))
    refine own_go (fun _ k => XS.iloadN X4.here hx rfl (hb hby d30_15) rfl (XS.iloadN X4.here hx rfl (hb hby d30_16) rfl (XS.icmpYes X4.here hx rfl (pc0 := 17) (pc' := 22) rfl (hb hby d30_17) rfl (feq (fun q => hcf ⟨hc7, q⟩)).2 (by decide) (by decide) (XS.iloadN X4.here hx rfl (hb hby d30_22) rfl (XS.iloadN X4.here hx rfl (hb hby d30_23) rfl (XS.isub X4.here hx rfl (hb hby d30_24) rfl k)))))) ?_
    show own_Go p e below s _ _ _ (T4.setTop (mkF m 25 #[rv a1, iv p2, iv p3, iv nz, .unset] [(.int (p3 - p2))]))
    rw [hln]
    show own_Go p e below s _ _ _ (T4.setTop (mkF m 25 #[rv a1, iv p2, iv p3, iv nz, .unset] [(.int ln)]))
    refine own_go (fun _ k => XS.istore X4.here hx rfl (hb hby d30_25) rfl (l' := #[rv a1, iv p2, iv p3, iv nz, iv ln]) rfl (XS.aloadN X4.here hx rfl (hb hby d30_27) rfl rfl k)) ?_
    obtain ⟨v8, T8, L8, X8, hQ8, st8⟩ := own_callV (y := own_y5) (z := own_y5) X4 hx hZ hown (ow92 hw) (ow93 hw) (notFace_of_selects (args := #[]) (mvT hZ (ow95 hw))) (ow95 hw) (ow94 hw) (ow7 hw) (ow96 hw) (rm_isLat l Z a0 hw hO [] a1 h0 O0 (fp2.keep K0 nin0)) 0 0 0 (by show _ ≤ 2; omega) (by show _ ≤ 20; omega) Kc5 (fp0.keep K0) (g := (mkF m 28 #[rv a1, iv p2, iv p3, iv nz, iv ln] [(.ref a1)])) rfl (by rw [hml]; rfl) [] [] (lenOf own_pd_4 rfl) rfl rfl (hb hby d30_28)
    obtain ⟨rfl, Nc10, Kc9⟩ := hQ8
    refine own_go st8 ?_
    clear st8 X4 Kc5
    replace N0 := Fr.app N0 Nc10
    clear Nc10
    refine own_go (fun _ k => XS.ifNo X8.here hx rfl (hb hby d30_31) rfl ((if0 _ _).trans (feq (by decide : ¬ ((1 : Int32) = (0 : Int32)))).1) (XS.aloadN X8.here hx rfl (hb hby d30_34) rfl rfl k)) ?_
    obtain ⟨T11, X11, e11, st11⟩ := getF X8 hx hZ hown (host := "") (Or.inl (ow33 hw)) Via.refl Kc9 (fp1.keep K0 nin0) (g := (mkF m 35 #[rv a1, iv p2, iv p3, iv nz, iv ln] [(.ref a1)])) rfl rfl (hb hby d30_35)
    refine own_go st11 ?_
    clear st11 X8 Kc9
    refine own_go (fun _ k => XS.iloadN X11.here hx rfl (hb hby d30_38) rfl (XS.iload X11.here hx rfl (hb hby d30_39) rfl k)) ?_
    show own_Go p e below s _ _ _ (T11.setTop (mkF m 41 #[rv a1, iv p2, iv p3, iv nz, iv ln] [(.int ln), (.int p2), (.ref t)]))
    obtain ⟨v12, T12, L12, X12, hQ12, st12⟩ := own_callS (y := own_y27) X11 hx hZ hown (ow166 hw) (ow167 hw) (ow99 hw) (ow168 hw) (rm_nsG l Z a0 hw hO [] t p2 ln kt nz (vl : List Value) h0 O0 (fp3.keep K0 nin0) hrg2 hl0 hcf2) 0 2 20 (by show _ ≤ 2; omega) (by show _ ≤ 20; omega) e11 (g := (mkF m 41 #[rv a1, iv p2, iv p3, iv nz, iv ln] [(.int ln), (.int p2), (.ref t)])) rfl (by rw [hml]; rfl) [(.ref t), (.int p2), (.int ln)] [] (lenOf own_pd_17 rfl) rfl rfl (hb hby d30_41)
    obtain ⟨w13, w14, w15, w16, rfl, Nc23, Kc22, hb17, f18, f19, f20, f21⟩ := hQ12
    refine own_go st12 ?_
    clear st12 X11 e11
    replace N0 := Fr.app N0 Nc23
    clear Nc23
    have big24 : Z.heap.size ≤ w13 := Nat.le_trans O0.1 hb17
    have sz25 : h0.size ≤ w13 := Nat.le_trans K0.1 hb17
    replace O0 := own_oldKeep O0 Kc22 all0
    replace K0 := K0.trans Kc22 all0
    clear Kc22
    refine own_go (fun _ k => XS.goto X12.here hx rfl (pc0 := 44) (pc' := 57) rfl (hb hby d30_44) (by decide) (by decide) k) ?_
    show own_Go p e below s _ _ _ (T12.setTop (mkF m 57 #[rv a1, iv p2, iv p3, iv nz, iv ln] [(.ref w13)]))
    refine own_retA X12 hx hlk (rfl : T12.heap = T12.heap) hret rfl rfl (hb hby d30_57) (by show _ ≤ 2; omega) (by show _ ≤ 20; omega) ?_
    exact ⟨w13, w14, w15, w16, rfl, N0, K0, sz25, f18, f19, f20, f21⟩
  · refine own_go (fun _ k => XS.ifYes X4.here hx rfl (pc0 := 12) (pc' := 22) rfl (hb hby d30_12) rfl ((if0 _ _).trans (feq hc7).2) (by decide) (by decide) k) ?_
    show own_Go p e below s _ _ _ (T4.setTop (mkF m 22 #[rv a1, iv p2, iv p3, iv nz, .unset] []))
    refine own_go (fun _ k => XS.iloadN X4.here hx rfl (hb hby d30_22) rfl (XS.iloadN X4.here hx rfl (hb hby d30_23) rfl (XS.isub X4.here hx rfl (hb hby d30_24) rfl k))) ?_
    show own_Go p e below s _ _ _ (T4.setTop (mkF m 25 #[rv a1, iv p2, iv p3, iv nz, .unset] [(.int (p3 - p2))]))
    rw [hln]
    show own_Go p e below s _ _ _ (T4.setTop (mkF m 25 #[rv a1, iv p2, iv p3, iv nz, .unset] [(.int ln)]))
    refine own_go (fun _ k => XS.istore X4.here hx rfl (hb hby d30_25) rfl (l' := #[rv a1, iv p2, iv p3, iv nz, iv ln]) rfl (XS.aloadN X4.here hx rfl (hb hby d30_27) rfl rfl k)) ?_
    obtain ⟨v26, T26, L26, X26, hQ26, st26⟩ := own_callV (y := own_y5) (z := own_y5) X4 hx hZ hown (ow92 hw) (ow93 hw) (notFace_of_selects (args := #[]) (mvT hZ (ow95 hw))) (ow95 hw) (ow94 hw) (ow7 hw) (ow96 hw) (rm_isLat l Z a0 hw hO [] a1 h0 O0 (fp2.keep K0 nin0)) 0 0 0 (by show _ ≤ 2; omega) (by show _ ≤ 20; omega) Kc5 (fp0.keep K0) (g := (mkF m 28 #[rv a1, iv p2, iv p3, iv nz, iv ln] [(.ref a1)])) rfl (by rw [hml]; rfl) [] [] (lenOf own_pd_4 rfl) rfl rfl (hb hby d30_28)
    obtain ⟨rfl, Nc28, Kc27⟩ := hQ26
    refine own_go st26 ?_
    clear st26 X4 Kc5
    replace N0 := Fr.app N0 Nc28
    clear Nc28
    refine own_go (fun _ k => XS.ifNo X26.here hx rfl (hb hby d30_31) rfl ((if0 _ _).trans (feq (by decide : ¬ ((1 : Int32) = (0 : Int32)))).1) (XS.aloadN X26.here hx rfl (hb hby d30_34) rfl rfl k)) ?_
    obtain ⟨T29, X29, e29, st29⟩ := getF X26 hx hZ hown (host := "") (Or.inl (ow33 hw)) Via.refl Kc27 (fp1.keep K0 nin0) (g := (mkF m 35 #[rv a1, iv p2, iv p3, iv nz, iv ln] [(.ref a1)])) rfl rfl (hb hby d30_35)
    refine own_go st29 ?_
    clear st29 X26 Kc27
    refine own_go (fun _ k => XS.iloadN X29.here hx rfl (hb hby d30_38) rfl (XS.iload X29.here hx rfl (hb hby d30_39) rfl k)) ?_
    show own_Go p e below s _ _ _ (T29.setTop (mkF m 41 #[rv a1, iv p2, iv p3, iv nz, iv ln] [(.int ln), (.int p2), (.ref t)]))
    obtain ⟨v30, T30, L30, X30, hQ30, st30⟩ := own_callS (y := own_y27) X29 hx hZ hown (ow166 hw) (ow167 hw) (ow99 hw) (ow168 hw) (rm_nsG l Z a0 hw hO [] t p2 ln kt nz (vl : List Value) h0 O0 (fp3.keep K0 nin0) hrg2 hl0 hcf2) 0 2 20 (by show _ ≤ 2; omega) (by show _ ≤ 20; omega) e29 (g := (mkF m 41 #[rv a1, iv p2, iv p3, iv nz, iv ln] [(.int ln), (.int p2), (.ref t)])) rfl (by rw [hml]; rfl) [(.ref t), (.int p2), (.int ln)] [] (lenOf own_pd_17 rfl) rfl rfl (hb hby d30_41)
    obtain ⟨w31, w32, w33, w34, rfl, Nc41, Kc40, hb35, f36, f37, f38, f39⟩ := hQ30
    refine own_go st30 ?_
    clear st30 X29 e29
    replace N0 := Fr.app N0 Nc41
    clear Nc41
    have big42 : Z.heap.size ≤ w31 := Nat.le_trans O0.1 hb35
    have sz43 : h0.size ≤ w31 := Nat.le_trans K0.1 hb35
    replace O0 := own_oldKeep O0 Kc40 all0
    replace K0 := K0.trans Kc40 all0
    clear Kc40
    refine own_go (fun _ k => XS.goto X30.here hx rfl (pc0 := 44) (pc' := 57) rfl (hb hby d30_44) (by decide) (by decide) k) ?_
    show own_Go p e below s _ _ _ (T30.setTop (mkF m 57 #[rv a1, iv p2, iv p3, iv nz, iv ln] [(.ref w31)]))
    refine own_retA X30 hx hlk (rfl : T30.heap = T30.heap) hret rfl rfl (hb hby d30_57) (by show _ ≤ 2; omega) (by show _ ≤ 20; omega) ?_
    exact ⟨w31, w32, w33, w34, rfl, N0, K0, sz43, f36, f37, f38, f39⟩
theorem d30_20 : decode jdk_42_method_92_code 20 = .ok (.aload_n 0, 1) := by decide +kernel
theorem d30_21 : decode jdk_42_method_92_code 21 = .ok (.areturn, 1) := by decide +kernel
def Q_subS (Z : State) (zc : Int32) (wsf : Value) (a1 : Addr) (p3 : Int32) (t : Addr) (kt : ClassId) (nz : Int32) (vl : List Value) (h0 : Heap) (v : Option Value) (h : Heap) (L : List Loc) : Prop := (v = some (.ref a1) ∧ Fr Z.heap.size L ∧ h = h0)
theorem ef_subS (m : MethodId) (x0 : Addr) (x2 : Int32) : entryFrame m #[(.ref x0), (.int (0 : Int32)), (.int x2)] 5 = mkF m 0 #[rv x0, iv (0 : Int32), iv x2, .unset, .unset] [] := by first | (simp [entryFrame, mkF, argsToLocals, Value.category]; done) | rfl
set_option maxRecDepth 65536 in
set_option maxHeartbeats 40000000 in
theorem rm_subS (l : Launch) (Z : State) (a0 : Array Value) (hw : own_W Z a0) {zc : Int32} {wsf : Value} (hO : own_Olds Z zc wsf) (ws : List Jvm.Cond) (a1 : Addr) (p3 : Int32) (t : Addr) (kt : ClassId) (nz : Int32) (vl : List Value) (h0 : Heap) (O0 : Ext Z.heap h0) (fp0 : Exa Z h0 a1 "java/lang/String") (fp1 : Fld Z h0 a1 "java/lang/String" "value" "[B" (.ref t)) (fp2 : Fld Z h0 a1 "java/lang/String" "coder" "B" (.int (0 : Int32))) (fp3 : Arv Z h0 t kt .byte nz vl (.int (0 : Int32))) (hpn : p3 = nz) (hp0 : ¬ (p3 < (0 : Int32))) (hpq : ¬ (nz < p3)) :
    own_MF l Z h0 own_y28 jdk_42_method_92_code 5 (some (.object "java/lang/String")) ({ frames := 2, cells := 0, slots := 0, locals := 29 } : Room) #[(.ref a1), (.int (0 : Int32)), (.int p3)] (Q_subS Z zc wsf a1 p3 t kt nz vl h0) ws := by
  refine own_met (Q := (Q_subS Z zc wsf a1 p3 t kt nz vl h0)) _ _ (plainFor_of_name own_pn_0) ?_
  intro p e s m below meth c T X0 hx hby hml hret hlk hZ hown hnm e0
  replace hown : s.vm.findClass "java/lang/String" = some m.cls := hown
  replace hnm : meth.name = "substring" := hnm
  have hml : c.maxLocals = 5 := hml
  obtain ⟨oCS, oCz, oSF, r_wsf⟩ := id hO
  have N0 := Fr.nil Z.heap.size
  have K0 := Keep.refl h0 []
  refine own_go (fun _ k => castTop (ef_subS m a1 p3) k) ?_
  show own_Go p e below s _ _ _ (T.setTop (mkF m 0 #[rv a1, iv (0 : Int32), iv p3, .unset, .unset] []))
  refine own_go (fun _ k => XS.aloadN X0.here hx rfl (hb hby d30_0) rfl rfl k) ?_
  obtain ⟨v1, T1, L1, X1, hQ1, st1⟩ := own_callV (y := own_y4) (z := own_y4) X0 hx hZ hown (ow68 hw) (ow69 hw) (notFace_of_selects (args := #[]) (mvT hZ (ow71 hw))) (ow71 hw) (ow70 hw) (ow7 hw) (ow72 hw) (rm_slenG l Z a0 hw hO [] a1 t kt nz (vl : List Value) h0 O0 (fp0.keep K0) (fp1.keep K0 nin0) (fp2.keep K0 nin0) (fp3.keep K0 nin0)) 0 0 0 (by show _ ≤ 0; omega) (by show _ ≤ 0; omega) e0 (fp0.keep K0) (g := (mkF m 1 #[rv a1, iv (0 : Int32), iv p3, .unset, .unset] [(.ref a1)])) rfl (by rw [hml]; rfl) [] [] (lenOf own_pd_6 rfl) rfl rfl (hb hby d30_1)
  obtain ⟨rfl, Nc3, Kc2⟩ := hQ1
  refine own_go st1 ?_
  clear st1 X0 e0
  replace N0 := Fr.app N0 Nc3
  clear Nc3
  refine own_go (fun _ k => XS.istoreN X1.here hx rfl (hb hby d30_4) rfl (l' := #[rv a1, iv (0 : Int32), iv p3, iv nz, .unset]) rfl (XS.iloadN X1.here hx rfl (hb hby d30_5) rfl (XS.iloadN X1.here hx rfl (hb hby d30_6) rfl (XS.iloadN X1.here hx rfl (hb hby d30_7) rfl k)))) ?_
  obtain ⟨v4, T4, L4, X4, hQ4, st4⟩ := own_callS (y := own_y22) X1 hx hZ hown (ow139 hw) (ow140 hw) (ow7 hw) (ow141 hw) (rm_cbe l Z a0 hw hO [] (0 : Int32) p3 nz h0 O0 (by decide : ¬ ((0 : Int32) < (0 : Int32))) hp0 hpq) 0 0 0 (by show _ ≤ 0; omega) (by show _ ≤ 0; omega) Kc2 (g := (mkF m 8 #[rv a1, iv (0 : Int32), iv p3, iv nz, .unset] [(.int nz), (.int p3), (.int (0 : Int32))])) rfl (by rw [hml]; rfl) [(.int (0 : Int32)), (.int p3), (.int nz)] [] (lenOf own_pd_16 rfl) rfl rfl (hb hby d30_8)
  obtain ⟨rfl, Nc6, Kc5⟩ := hQ4
  refine own_go st4 ?_
  clear st4 X1 Kc2
  replace N0 := Fr.app N0 Nc6
  clear Nc6
  refine own_go (fun _ k => XS.iloadN X4.here hx rfl (hb hby d30_11) rfl k) ?_
  show own_Go p e below s _ _ _ (T4.setTop (mkF m 12 #[rv a1, iv (0 : Int32), iv p3, iv nz, .unset] [(.int (0 : Int32))]))
  refine own_go (fun _ k => XS.ifNo X4.here hx rfl (hb hby d30_12) rfl ((if0 _ _).trans (teq (by decide : (0 : Int32) = (0 : Int32))).2) (XS.iloadN X4.here hx rfl (hb hby d30_15) rfl (XS.iloadN X4.here hx rfl (hb hby d30_16) rfl (XS.icmpNo X4.here hx rfl (hb hby d30_17) rfl (teq hpn).2 (XS.aloadN X4.here hx rfl (hb hby d30_20) rfl rfl k))))) ?_
  show own_Go p e below s _ _ _ (T4.setTop (mkF m 21 #[rv a1, iv (0 : Int32), iv p3, iv nz, .unset] [(.ref a1)]))
  refine own_retA X4 hx hlk Kc5 hret rfl rfl (hb hby d30_21) (by show _ ≤ 0; omega) (by show _ ≤ 0; omega) ?_
  exact ⟨rfl, N0, rfl⟩
theorem d42_0 : decode jdk_43_method_13_code 0 = .ok (.aload_n 0, 1) := by decide +kernel
theorem d42_1 : decode jdk_43_method_13_code 1 = .ok (.arraylength, 1) := by decide +kernel
theorem d42_2 : decode jdk_43_method_13_code 2 = .ok (.aload_n 1, 1) := by decide +kernel
theorem d42_3 : decode jdk_43_method_13_code 3 = .ok (.arraylength, 1) := by decide +kernel
theorem d42_4 : decode jdk_43_method_13_code 4 = .ok (.if_icmp .ne 30, 3) := by decide +kernel
theorem d42_7 : decode jdk_43_method_13_code 7 = .ok (.iconst 0, 1) := by decide +kernel
theorem d42_8 : decode jdk_43_method_13_code 8 = .ok (.istore_n 2, 1) := by decide +kernel
theorem d42_9 : decode jdk_43_method_13_code 9 = .ok (.iload_n 2, 1) := by decide +kernel
theorem d42_10 : decode jdk_43_method_13_code 10 = .ok (.aload_n 0, 1) := by decide +kernel
theorem d42_11 : decode jdk_43_method_13_code 11 = .ok (.arraylength, 1) := by decide +kernel
theorem d42_12 : decode jdk_43_method_13_code 12 = .ok (.if_icmp .ge 20, 3) := by decide +kernel
theorem d42_15 : decode jdk_43_method_13_code 15 = .ok (.aload_n 0, 1) := by decide +kernel
theorem d42_16 : decode jdk_43_method_13_code 16 = .ok (.iload_n 2, 1) := by decide +kernel
theorem d42_17 : decode jdk_43_method_13_code 17 = .ok (.baload, 1) := by decide +kernel
theorem d42_18 : decode jdk_43_method_13_code 18 = .ok (.aload_n 1, 1) := by decide +kernel
theorem d42_19 : decode jdk_43_method_13_code 19 = .ok (.iload_n 2, 1) := by decide +kernel
theorem d42_20 : decode jdk_43_method_13_code 20 = .ok (.baload, 1) := by decide +kernel
theorem d42_21 : decode jdk_43_method_13_code 21 = .ok (.if_icmp .eq 5, 3) := by decide +kernel
theorem d42_24 : decode jdk_43_method_13_code 24 = .ok (.iconst 0, 1) := by decide +kernel
theorem d42_25 : decode jdk_43_method_13_code 25 = .ok (.ireturn, 1) := by decide +kernel
theorem d42_26 : decode jdk_43_method_13_code 26 = .ok (.iinc 2 1, 3) := by decide +kernel
theorem d42_29 : decode jdk_43_method_13_code 29 = .ok (.goto (-20), 3) := by decide +kernel
theorem d42_32 : decode jdk_43_method_13_code 32 = .ok (.iconst 1, 1) := by decide +kernel
theorem d42_33 : decode jdk_43_method_13_code 33 = .ok (.ireturn, 1) := by decide +kernel
theorem d42_34 : decode jdk_43_method_13_code 34 = .ok (.iconst 0, 1) := by decide +kernel
theorem d42_35 : decode jdk_43_method_13_code 35 = .ok (.ireturn, 1) := by decide +kernel
def Q_leqG (Z : State) (zc : Int32) (wsf : Value) (t : Addr) (u : Addr) (kt : ClassId) (nz : Int32) (vl : List Value) (ku : ClassId) (y0 : Int32) (h0 : Heap) (v : Option Value) (h : Heap) (L : List Loc) : Prop := (∃ r : Int32, v = some (.int r) ∧ Fr Z.heap.size L ∧ h = h0)
theorem ef_leqG (m : MethodId) (x0 : Addr) (x1 : Addr) : entryFrame m #[(.ref x0), (.ref x1)] 3 = mkF m 0 #[rv x0, rv x1, .unset] [] := by first | (simp [entryFrame, mkF, argsToLocals, Value.category]; done) | rfl
set_option maxRecDepth 65536 in
set_option maxHeartbeats 40000000 in
theorem rm_leqG (l : Launch) (Z : State) (a0 : Array Value) (hw : own_W Z a0) {zc : Int32} {wsf : Value} (hO : own_Olds Z zc wsf) (ws : List Jvm.Cond) (t : Addr) (u : Addr) (kt : ClassId) (nz : Int32) (vl : List Value) (ku : ClassId) (y0 : Int32) (h0 : Heap) (O0 : Ext Z.heap h0) (fp0 : Arv Z h0 t kt .byte nz vl (.int (0 : Int32))) (fp1 : Arv Z h0 u ku .byte (1 : Int32) [(.int y0)] (.int (0 : Int32))) :
    own_MF l Z h0 own_y29 jdk_43_method_13_code 3 (some .boolean) ({ frames := 0, cells := 0, slots := 0, locals := 0 } : Room) #[(.ref t), (.ref u)] (Q_leqG Z zc wsf t u kt nz vl ku y0 h0) ws := by
  refine own_met (Q := (Q_leqG Z zc wsf t u kt nz vl ku y0 h0)) _ _ (plainFor_of_name own_pn_3) ?_
  intro p e s m below meth c T X0 hx hby hml hret hlk hZ hown hnm e0
  replace hown : s.vm.findClass "java/lang/StringLatin1" = some m.cls := hown
  replace hnm : meth.name = "equals" := hnm
  have hml : c.maxLocals = 3 := hml
  obtain ⟨oCS, oCz, oSF, r_wsf⟩ := id hO
  have N0 := Fr.nil Z.heap.size
  have K0 := Keep.refl h0 []
  refine own_go (fun _ k => castTop (ef_leqG m t u) k) ?_
  show own_Go p e below s _ _ _ (T.setTop (mkF m 0 #[rv t, rv u, .unset] []))
  refine own_go (fun _ k => XS.aloadN X0.here hx rfl (hb hby d42_0) rfl rfl k) ?_
  show own_Go p e below s _ _ _ (T.setTop (mkF m 1 #[rv t, rv u, .unset] [(.ref t)]))
  obtain ⟨cl1, Ar1, -, S1, M1, -, -⟩ := id (fp0.keep K0 nin0)
  refine own_go (X0.arraylength hx (by rw [e0]; exact Ar1.1) (State.isArrayOf_alike hZ.alike Ar1.2.1) (g := (mkF m 1 #[rv t, rv u, .unset] [(.ref t)])) rfl rfl (hb hby d42_1)) ?_
  rw [len_of S1 M1]
  refine own_go (fun _ k => XS.aloadN X0.here hx rfl (hb hby d42_2) rfl rfl k) ?_
  show own_Go p e below s _ _ _ (T.setTop (mkF m 3 #[rv t, rv u, .unset] [(.ref u), (.int nz)]))
  obtain ⟨cl2, Ar2, -, S2, M2, -, -⟩ := id (fp1.keep K0 nin0)
  refine own_go (X0.arraylength hx (by rw [e0]; exact Ar2.1) (State.isArrayOf_alike hZ.alike Ar2.2.1) (g := (mkF m 3 #[rv t, rv u, .unset] [(.ref u), (.int nz)])) rfl rfl (hb hby d42_3)) ?_
  rw [len_of S2 M2]
  by_cases hc3 : nz = (1 : Int32)
  · refine own_go (fun _ k => XS.icmpNo X0.here hx rfl (hb hby d42_4) rfl (teq hc3).2 k) ?_
    show own_Go p e below s _ _ _ (T.setTop (mkF m 7 #[rv t, rv u, .unset] []))
    subst hc3
    obtain ⟨ke, xe, fe⟩ := own_BA1 (fp0.keep K0 nin0)
    refine own_go (fun _ k => XS.iconst X0.here hx rfl (hb hby d42_7) (XS.istoreN X0.here hx rfl (hb hby d42_8) rfl (l' := #[rv t, rv u, iv (0 : Int32)]) rfl (XS.iloadN X0.here hx rfl (hb hby d42_9) rfl (XS.aloadN X0.here hx rfl (hb hby d42_10) rfl rfl k)))) ?_
    show own_Go p e below s _ _ _ (T.setTop (mkF m 11 #[rv t, rv u, iv (0 : Int32)] [(.ref t), (.int (0 : Int32))]))
    obtain ⟨cl4, Ar4, -, S4, M4, -, -⟩ := id fe
    refine own_go (X0.arraylength hx (by rw [e0]; exact Ar4.1) (State.isArrayOf_alike hZ.alike Ar4.2.1) (g := (mkF m 11 #[rv t, rv u, iv (0 : Int32)] [(.ref t), (.int (0 : Int32))])) rfl rfl (hb hby d42_11)) ?_
    rw [len_of S4 M4]
    refine own_go (fun _ k => XS.icmpNo X0.here hx rfl (hb hby d42_12) rfl (tlt (by decide : (0 : Int32) < (1 : Int32))).2.1 (XS.aloadN X0.here hx rfl (hb hby d42_15) rfl rfl (XS.iloadN X0.here hx rfl (hb hby d42_16) rfl k))) ?_
    obtain ⟨cl5, Ar5, -, S5, -, P5, -⟩ := id fe
    have hin5 : ¬ ((0 : Int32) < 0 ∨ cl5.slots.size ≤ ((0 : Int32)).toNatClampNeg) := inb_of S5 ⟨by decide, by decide⟩
    refine own_go (X0.baloadBytes hx (j := (0 : Int32)) (v := (.int xe)) (by rw [e0]; exact Ar5.1) (State.isArrayOf_alike hZ.alike Ar5.2.1) Ar5.2.2 hin5 (P5.at hin5 rfl) (g := (mkF m 17 #[rv t, rv u, iv (0 : Int32)] [(.int (0 : Int32)), (.ref t)])) rfl rfl (hb hby d42_17)) ?_
    refine own_go (fun _ k => XS.aloadN X0.here hx rfl (hb hby d42_18) rfl rfl (XS.iloadN X0.here hx rfl (hb hby d42_19) rfl k)) ?_
    obtain ⟨cl6, Ar6, -, S6, -, P6, -⟩ := id (fp1.keep K0 nin0)
    have hin6 : ¬ ((0 : Int32) < 0 ∨ cl6.slots.size ≤ ((0 : Int32)).toNatClampNeg) := inb_of S6 ⟨by decide, by decide⟩
    refine own_go (X0.baloadBytes hx (j := (0 : Int32)) (v := (.int y0)) (by rw [e0]; exact Ar6.1) (State.isArrayOf_alike hZ.alike Ar6.2.1) Ar6.2.2 hin6 (P6.at hin6 rfl) (g := (mkF m 20 #[rv t, rv u, iv (0 : Int32)] [(.int (0 : Int32)), (.ref u), (.int xe)])) rfl rfl (hb hby d42_20)) ?_
    show own_Go p e below s _ _ _ (T.setTop (mkF m 21 #[rv t, rv u, iv (0 : Int32)] [(.int y0), (.int xe)]))
    by_cases hc7 : xe = y0
    · refine own_go (fun _ k => XS.icmpYes X0.here hx rfl (pc0 := 21) (pc' := 26) rfl (hb hby d42_21) rfl (teq hc7).1 (by decide) (by decide) k) ?_
      show own_Go p e below s _ _ _ (T.setTop (mkF m 26 #[rv t, rv u, iv (0 : Int32)] []))
      refine own_go (fun _ k => XS.iinc X0.here hx rfl (hb hby d42_26) rfl (l' := #[rv t, rv u, iv (1 : Int32)]) rfl (XS.goto X0.here hx rfl (pc0 := 29) (pc' := 9) rfl (hb hby d42_29) (by decide) (by decide) (XS.iloadN X0.here hx rfl (hb hby d42_9) rfl (XS.aloadN X0.here hx rfl (hb hby d42_10) rfl rfl k)))) ?_
      show own_Go p e below s _ _ _ (T.setTop (mkF m 11 #[rv t, rv u, iv (1 : Int32)] [(.ref t), (.int (1 : Int32))]))
      obtain ⟨cl8, Ar8, -, S8, M8, -, -⟩ := id fe
      refine own_go (X0.arraylength hx (by rw [e0]; exact Ar8.1) (State.isArrayOf_alike hZ.alike Ar8.2.1) (g := (mkF m 11 #[rv t, rv u, iv (1 : Int32)] [(.ref t), (.int (1 : Int32))])) rfl rfl (hb hby d42_11)) ?_
      rw [len_of S8 M8]
      refine own_go (fun _ k => XS.icmpYes X0.here hx rfl (pc0 := 12) (pc' := 32) rfl (hb hby d42_12) rfl (flt (by decide : ¬ ((1 : Int32) < (1 : Int32)))).2.1 (by decide) (by decide) (XS.iconst X0.here hx rfl (hb hby d42_32) k)) ?_
      show own_Go p e below s _ _ _ (T.setTop (mkF m 33 #[rv t, rv u, iv (1 : Int32)] [(.int (1 : Int32))]))
      refine own_retN X0 hx hlk e0 (t := .boolean) hret (by simp) (hb hby d42_33) (by show _ ≤ 0; omega) (by show _ ≤ 0; omega) ?_
      exact ⟨(1 : Int32), rfl, N0, rfl⟩
    · refine own_go (fun _ k => XS.icmpNo X0.here hx rfl (hb hby d42_21) rfl (feq hc7).1 k) ?_
      show own_Go p e below s _ _ _ (T.setTop (mkF m 24 #[rv t, rv u, iv (0 : Int32)] []))
      refine own_go (fun _ k => XS.iconst X0.here hx rfl (hb hby d42_24) k) ?_
      show own_Go p e below s _ _ _ (T.setTop (mkF m 25 #[rv t, rv u, iv (0 : Int32)] [(.int (0 : Int32))]))
      refine own_retN X0 hx hlk e0 (t := .boolean) hret (by simp) (hb hby d42_25) (by show _ ≤ 0; omega) (by show _ ≤ 0; omega) ?_
      exact ⟨(0 : Int32), rfl, N0, rfl⟩
  · refine own_go (fun _ k => XS.icmpYes X0.here hx rfl (pc0 := 4) (pc' := 34) rfl (hb hby d42_4) rfl (feq hc3).2 (by decide) (by decide) k) ?_
    show own_Go p e below s _ _ _ (T.setTop (mkF m 34 #[rv t, rv u, .unset] []))
    refine own_go (fun _ k => XS.iconst X0.here hx rfl (hb hby d42_34) k) ?_
    show own_Go p e below s _ _ _ (T.setTop (mkF m 35 #[rv t, rv u, .unset] [(.int (0 : Int32))]))
    refine own_retN X0 hx hlk e0 (t := .boolean) hret (by simp) (hb hby d42_35) (by show _ ≤ 0; omega) (by show _ ≤ 0; omega) ?_
    exact ⟨(0 : Int32), rfl, N0, rfl⟩
theorem d41_0 : decode jdk_42_method_66_code 0 = .ok (.aload_n 0, 1) := by decide +kernel
theorem d41_1 : decode jdk_42_method_66_code 1 = .ok (.aload_n 1, 1) := by decide +kernel
theorem d41_2 : decode jdk_42_method_66_code 2 = .ok (.if_acmp .ne 5, 3) := by decide +kernel
theorem d41_5 : decode jdk_42_method_66_code 5 = .ok (.iconst 1, 1) := by decide +kernel
theorem d41_6 : decode jdk_42_method_66_code 6 = .ok (.ireturn, 1) := by decide +kernel
theorem d41_7 : decode jdk_42_method_66_code 7 = .ok (.aload_n 1, 1) := by decide +kernel
theorem d41_8 : decode jdk_42_method_66_code 8 = .ok (.instanceof 10, 3) := by decide +kernel
theorem d41_11 : decode jdk_42_method_66_code 11 = .ok (.ifCond .eq 43, 3) := by decide +kernel
theorem d41_14 : decode jdk_42_method_66_code 14 = .ok (.aload_n 1, 1) := by decide +kernel
theorem d41_15 : decode jdk_42_method_66_code 15 = .ok (.checkcast 10, 3) := by decide +kernel
theorem d41_18 : decode jdk_42_method_66_code 18 = .ok (.astore_n 2, 1) := by decide +kernel
theorem d41_19 : decode jdk_42_method_66_code 19 = .ok (.getstatic 38, 3) := by decide +kernel
theorem d41_22 : decode jdk_42_method_66_code 22 = .ok (.ifCond .eq 14, 3) := by decide +kernel
theorem d41_25 : decode jdk_42_method_66_code 25 = .ok (.aload_n 0, 1) := by decide +kernel
theorem d41_26 : decode jdk_42_method_66_code 26 = .ok (.getfield 15, 3) := by decide +kernel
theorem d41_29 : decode jdk_42_method_66_code 29 = .ok (.aload_n 2, 1) := by decide +kernel
theorem d41_30 : decode jdk_42_method_66_code 30 = .ok (.getfield 15, 3) := by decide +kernel
theorem d41_33 : decode jdk_42_method_66_code 33 = .ok (.if_icmp .ne 21, 3) := by decide +kernel
theorem d41_36 : decode jdk_42_method_66_code 36 = .ok (.aload_n 0, 1) := by decide +kernel
theorem d41_37 : decode jdk_42_method_66_code 37 = .ok (.getfield 9, 3) := by decide +kernel
theorem d41_40 : decode jdk_42_method_66_code 40 = .ok (.aload_n 2, 1) := by decide +kernel
theorem d41_41 : decode jdk_42_method_66_code 41 = .ok (.getfield 9, 3) := by decide +kernel
theorem d41_44 : decode jdk_42_method_66_code 44 = .ok (.invokestatic 541, 3) := by decide +kernel
theorem d41_47 : decode jdk_42_method_66_code 47 = .ok (.ifCond .eq 7, 3) := by decide +kernel
theorem d41_50 : decode jdk_42_method_66_code 50 = .ok (.iconst 1, 1) := by decide +kernel
theorem d41_51 : decode jdk_42_method_66_code 51 = .ok (.goto 4, 3) := by decide +kernel
theorem d41_54 : decode jdk_42_method_66_code 54 = .ok (.iconst 0, 1) := by decide +kernel
theorem d41_55 : decode jdk_42_method_66_code 55 = .ok (.ireturn, 1) := by decide +kernel
def Q_seqG (Z : State) (zc : Int32) (wsf : Value) (a1 : Addr) (a2 : Addr) (t : Addr) (kt : ClassId) (nz : Int32) (vl : List Value) (u : Addr) (ku : ClassId) (y0 : Int32) (h0 : Heap) (v : Option Value) (h : Heap) (L : List Loc) : Prop := (∃ r : Int32, v = some (.int r) ∧ Fr Z.heap.size L ∧ h = h0)
theorem ef_seqG (m : MethodId) (x0 : Addr) (x1 : Addr) : entryFrame m #[(.ref x0), (.ref x1)] 3 = mkF m 0 #[rv x0, rv x1, .unset] [] := by first | (simp [entryFrame, mkF, argsToLocals, Value.category]; done) | rfl
set_option maxRecDepth 65536 in
set_option maxHeartbeats 40000000 in
theorem rm_seqG (l : Launch) (Z : State) (a0 : Array Value) (hw : own_W Z a0) {zc : Int32} {wsf : Value} (hO : own_Olds Z zc wsf) (ws : List Jvm.Cond) (a1 : Addr) (a2 : Addr) (t : Addr) (kt : ClassId) (nz : Int32) (vl : List Value) (u : Addr) (ku : ClassId) (y0 : Int32) (h0 : Heap) (O0 : Ext Z.heap h0) (fp0 : Exa Z h0 a1 "java/lang/String") (fp1 : Fld Z h0 a1 "java/lang/String" "value" "[B" (.ref t)) (fp2 : Fld Z h0 a1 "java/lang/String" "coder" "B" (.int (0 : Int32))) (fp3 : Arv Z h0 t kt .byte nz vl (.int (0 : Int32))) (fp4 : Exa Z h0 a2 "java/lang/String") (fp5 : Fld Z h0 a2 "java/lang/String" "value" "[B" (.ref u)) (fp6 : Fld Z h0 a2 "java/lang/String" "coder" "B" (.int (0 : Int32))) (fp7 : Arv Z h0 u ku .byte (1 : Int32) [(.int y0)] (.int (0 : Int32))) :
    own_MF l Z h0 own_y30 jdk_42_method_66_code 3 (some .boolean) ({ frames := 1, cells := 0, slots := 0, locals := 14 } : Room) #[(.ref a1), (.ref a2)] (Q_seqG Z zc wsf a1 a2 t kt nz vl u ku y0 h0) ws := by
  refine own_met (Q := (Q_seqG Z zc wsf a1 a2 t kt nz vl u ku y0 h0)) _ _ (plainFor_of_name own_pn_0) ?_
  intro p e s m below meth c T X0 hx hby hml hret hlk hZ hown hnm e0
  replace hown : s.vm.findClass "java/lang/String" = some m.cls := hown
  replace hnm : meth.name = "equals" := hnm
  have hml : c.maxLocals = 3 := hml
  obtain ⟨oCS, oCz, oSF, r_wsf⟩ := id hO
  have N0 := Fr.nil Z.heap.size
  have K0 := Keep.refl h0 []
  refine own_go (fun _ k => castTop (ef_seqG m a1 a2) k) ?_
  show own_Go p e below s _ _ _ (T.setTop (mkF m 0 #[rv a1, rv a2, .unset] []))
  refine own_go (fun _ k => XS.aloadN X0.here hx rfl (hb hby d41_0) rfl rfl (XS.aloadN X0.here hx rfl (hb hby d41_1) rfl rfl k)) ?_
  by_cases hc1 : a1 = a2
  · refine own_go (fun _ k => Jvm.RoadKit.acmp (g := (mkF m 2 #[rv a1, rv a2, .unset] [(.ref a2), (.ref a1)])) X0 hx rfl rfl rfl (pc0 := 2) (pc' := 5) (same := true) rfl (hb hby d41_2) rfl (decide_eq_true (congrArg Value.ref hc1)) (by decide) (by decide) k) ?_
    show own_Go p e below s _ _ _ (T.setTop (mkF m 5 #[rv a1, rv a2, .unset] []))
    refine own_go (fun _ k => XS.iconst X0.here hx rfl (hb hby d41_5) k) ?_
    show own_Go p e below s _ _ _ (T.setTop (mkF m 6 #[rv a1, rv a2, .unset] [(.int (1 : Int32))]))
    refine own_retN X0 hx hlk e0 (t := .boolean) hret (by simp) (hb hby d41_6) (by show _ ≤ 0; omega) (by show _ ≤ 0; omega) ?_
    exact ⟨(1 : Int32), rfl, N0, rfl⟩
  · refine own_go (fun _ k => Jvm.RoadKit.acmp (g := (mkF m 2 #[rv a1, rv a2, .unset] [(.ref a2), (.ref a1)])) X0 hx rfl rfl rfl (pc0 := 2) (pc' := 7) (same := false) rfl (hb hby d41_2) rfl (decide_eq_false fun q => hc1 (Value.ref.inj q)) (by decide) (by decide) k) ?_
    show own_Go p e below s _ _ _ (T.setTop (mkF m 7 #[rv a1, rv a2, .unset] []))
    refine own_go (fun _ k => XS.aloadN X0.here hx rfl (hb hby d41_7) rfl rfl k) ?_
    obtain ⟨T2, X2, e2, st2⟩ := instY X0 hx hZ hown (ow194 hw) e0 (Ins.self (fp4.keep K0)) (g := (mkF m 8 #[rv a1, rv a2, .unset] [(.ref a2)])) rfl rfl (hb hby d41_8)
    refine own_go st2 ?_
    clear st2 X0 e0
    refine own_go (fun _ k => XS.ifNo X2.here hx rfl (hb hby d41_11) rfl ((if0 _ _).trans (feq (by decide : ¬ ((1 : Int32) = (0 : Int32)))).1) (XS.aloadN X2.here hx rfl (hb hby d41_14) rfl rfl k)) ?_
    obtain ⟨T3, X3, e3, st3⟩ := castY X2 hx hZ hown (ow194 hw) e2 (Ins.self (fp4.keep K0)) (g := (mkF m 15 #[rv a1, rv a2, .unset] [(.ref a2)])) rfl rfl (hb hby d41_15)
    refine own_go st3 ?_
    clear st3 X2 e2
    refine own_go (fun _ k => XS.astoreN X3.here hx rfl (hb hby d41_18) rfl rfl (l' := #[rv a1, rv a2, rv a2]) rfl k) ?_
    obtain ⟨T4, X4, e4, st4⟩ := getS2 X3 hx hZ hown (host := "") (Or.inl (ow19 hw)) Via.refl e3 (oCS.ext O0) (g := (mkF m 19 #[rv a1, rv a2, rv a2] [])) rfl (hb hby d41_19)
    refine own_go st4 ?_
    clear st4 X3 e3
    refine own_go (fun _ k => XS.ifNo X4.here hx rfl (hb hby d41_22) rfl ((if0 _ _).trans (feq oCz).1) k) ?_
    show own_Go p e below s _ _ _ (T4.setTop (mkF m 25 #[rv a1, rv a2, rv a2] []))
    refine own_go (fun _ k => XS.aloadN X4.here hx rfl (hb hby d41_25) rfl rfl k) ?_
    obtain ⟨T5, X5, e5, st5⟩ := getF X4 hx hZ hown (host := "") (Or.inl (ow31 hw)) Via.refl e4 (fp2.keep K0 nin0) (g := (mkF m 26 #[rv a1, rv a2, rv a2] [(.ref a1)])) rfl rfl (hb hby d41_26)
    refine own_go st5 ?_
    clear st5 X4 e4
    refine own_go (fun _ k => XS.aloadN X5.here hx rfl (hb hby d41_29) rfl rfl k) ?_
    obtain ⟨T6, X6, e6, st6⟩ := getF X5 hx hZ hown (host := "") (Or.inl (ow31 hw)) Via.refl e5 (fp6.keep K0 nin0) (g := (mkF m 30 #[rv a1, rv a2, rv a2] [(.ref a2), (.int (0 : Int32))])) rfl rfl (hb hby d41_30)
    refine own_go st6 ?_
    clear st6 X5 e5
    refine own_go (fun _ k => XS.icmpNo X6.here hx rfl (hb hby d41_33) rfl (teq (by decide : (0 : Int32) = (0 : Int32))).2 (XS.aloadN X6.here hx rfl (hb hby d41_36) rfl rfl k)) ?_
    obtain ⟨T7, X7, e7, st7⟩ := getF X6 hx hZ hown (host := "") (Or.inl (ow33 hw)) Via.refl e6 (fp1.keep K0 nin0) (g := (mkF m 37 #[rv a1, rv a2, rv a2] [(.ref a1)])) rfl rfl (hb hby d41_37)
    refine own_go st7 ?_
    clear st7 X6 e6
    refine own_go (fun _ k => XS.aloadN X7.here hx rfl (hb hby d41_40) rfl rfl k) ?_
    show own_Go p e below s _ _ _ (T7.setTop (mkF m 41 #[rv a1, rv a2, rv a2] [(.ref a2), (.ref t)]))
    obtain ⟨T8, X8, e8, st8⟩ := getF X7 hx hZ hown (host := "") (Or.inl (ow33 hw)) Via.refl e7 (fp5.keep K0 nin0) (g := (mkF m 41 #[rv a1, rv a2, rv a2] [(.ref a2), (.ref t)])) rfl rfl (hb hby d41_41)
    refine own_go st8 ?_
    clear st8 X7 e7
    obtain ⟨v9, T9, L9, X9, hQ9, st9⟩ := own_callS (y := own_y29) X8 hx hZ hown (ow195 hw) (ow196 hw) (ow99 hw) (ow197 hw) (rm_leqG l Z a0 hw hO [] t u kt nz (vl : List Value) ku y0 h0 O0 (fp3.keep K0 nin0) (fp7.keep K0 nin0)) 0 0 0 (by show _ ≤ 0; omega) (by show _ ≤ 0; omega) e8 (g := (mkF m 44 #[rv a1, rv a2, rv a2] [(.ref u), (.ref t)])) rfl (by rw [hml]; rfl) [(.ref t), (.ref u)] [] (lenOf own_pd_18 rfl) rfl rfl (hb hby d41_44)
    obtain ⟨w10, rfl, Nc12, Kc11⟩ := hQ9
    refine own_go st9 ?_
    clear st9 X8 e8
    replace N0 := Fr.app N0 Nc12
    clear Nc12
    by_cases hc13 : w10 = (0 : Int32)
    · refine own_go (fun _ k => XS.ifYes X9.here hx rfl (pc0 := 47) (pc' := 54) rfl (hb hby d41_47) rfl ((if0 _ _).trans (teq hc13).1) (by decide) (by decide) k) ?_
      show own_Go p e below s _ _ _ (T9.setTop (mkF m 54 #[rv a1, rv a2, rv a2] []))
      refine own_go (fun _ k => XS.iconst X9.here hx rfl (hb hby d41_54) k) ?_
      show own_Go p e below s _ _ _ (T9.setTop (mkF m 55 #[rv a1, rv a2, rv a2] [(.int (0 : Int32))]))
      refine own_retN X9 hx hlk Kc11 (t := .boolean) hret (by simp) (hb hby d41_55) (by show _ ≤ 0; omega) (by show _ ≤ 0; omega) ?_
      exact ⟨(0 : Int32), rfl, N0, rfl⟩
    · refine own_go (fun _ k => XS.ifNo X9.here hx rfl (hb hby d41_47) rfl ((if0 _ _).trans (feq hc13).1) k) ?_
      show own_Go p e below s _ _ _ (T9.setTop (mkF m 50 #[rv a1, rv a2, rv a2] []))
      refine own_go (fun _ k => XS.iconst X9.here hx rfl (hb hby d41_50) (XS.goto X9.here hx rfl (pc0 := 51) (pc' := 55) rfl (hb hby d41_51) (by decide) (by decide) k)) ?_
      show own_Go p e below s _ _ _ (T9.setTop (mkF m 55 #[rv a1, rv a2, rv a2] [(.int (1 : Int32))]))
      refine own_retN X9 hx hlk Kc11 (t := .boolean) hret (by simp) (hb hby d41_55) (by show _ ≤ 0; omega) (by show _ ≤ 0; omega) ?_
      exact ⟨(1 : Int32), rfl, N0, rfl⟩
theorem d44_0 : decode jdk_68_method_2_code 0 = .ok (.aload_n 0, 1) := by decide +kernel
theorem d44_1 : decode jdk_68_method_2_code 1 = .ok (.invokespecial 3, 3) := by decide +kernel
theorem d44_4 : decode jdk_68_method_2_code 4 = .ok (.getstatic 18, 3) := by decide +kernel
theorem d44_7 : decode jdk_68_method_2_code 7 = .ok (.ifCond .eq 18, 3) := by decide +kernel
theorem d44_10 : decode jdk_68_method_2_code 10 = .ok (.aload_n 0, 1) := by decide +kernel
theorem d44_11 : decode jdk_68_method_2_code 11 = .ok (.iload_n 1, 1) := by decide +kernel
theorem d44_12 : decode jdk_68_method_2_code 12 = .ok (.newarray .byte, 2) := by decide +kernel
theorem d44_14 : decode jdk_68_method_2_code 14 = .ok (.putfield 15, 3) := by decide +kernel
theorem d44_17 : decode jdk_68_method_2_code 17 = .ok (.aload_n 0, 1) := by decide +kernel
theorem d44_18 : decode jdk_68_method_2_code 18 = .ok (.iconst 0, 1) := by decide +kernel
theorem d44_19 : decode jdk_68_method_2_code 19 = .ok (.putfield 22, 3) := by decide +kernel
theorem d44_22 : decode jdk_68_method_2_code 22 = .ok (.goto 16, 3) := by decide +kernel
theorem d44_38 : decode jdk_68_method_2_code 38 = .ok (.return_, 1) := by decide +kernel
def Q_asbinit (Z : State) (zc : Int32) (wsf : Value) (a1 : Addr) (h0 : Heap) (v : Option Value) (h : Heap) (L : List Loc) : Prop := (∃ vb : Addr, ∃ kv : ClassId, ∃ vs : List Value, v = none ∧ Fr Z.heap.size L ∧ Keep h0 h [a1] ∧ h0.size ≤ vb ∧ Exa Z h a1 "java/lang/StringBuilder" ∧ Fld Z h a1 "java/lang/AbstractStringBuilder" "value" "[B" (.ref vb) ∧ Fld Z h a1 "java/lang/AbstractStringBuilder" "coder" "B" (.int (0 : Int32)) ∧ Fld Z h a1 "java/lang/AbstractStringBuilder" "count" "I" (.int (0 : Int32)) ∧ Arv Z h vb kv .byte (16 : Int32) vs (.int (0 : Int32)))
theorem ef_asbinit (m : MethodId) (x0 : Addr) : entryFrame m #[(.ref x0), (.int (16 : Int32))] 2 = mkF m 0 #[rv x0, iv (16 : Int32)] [] := by first | (simp [entryFrame, mkF, argsToLocals, Value.category]; done) | rfl
set_option maxRecDepth 65536 in
set_option maxHeartbeats 40000000 in
theorem rm_asbinit (l : Launch) (Z : State) (a0 : Array Value) (hw : own_W Z a0) {zc : Int32} {wsf : Value} (hO : own_Olds Z zc wsf) (ws : List Jvm.Cond) (a1 : Addr) (h0 : Heap) (O0 : Ext Z.heap h0) (fp0 : Exa Z h0 a1 "java/lang/StringBuilder") (fp1 : Fld Z h0 a1 "java/lang/AbstractStringBuilder" "value" "[B" .null) (fp2 : Fld Z h0 a1 "java/lang/AbstractStringBuilder" "coder" "B" (.int (0 : Int32))) (fp3 : Fld Z h0 a1 "java/lang/AbstractStringBuilder" "count" "I" (.int (0 : Int32))) (big_a1 : Z.heap.size ≤ a1) :
    own_MF l Z h0 own_y31 jdk_68_method_2_code 2 none ({ frames := 1, cells := 1, slots := 16, locals := 12 } : Room) #[(.ref a1), (.int (16 : Int32))] (Q_asbinit Z zc wsf a1 h0) ws := by
  refine own_met (Q := (Q_asbinit Z zc wsf a1 h0)) _ _ (plainFor_of_name own_pn_7) ?_
  intro p e s m below meth c T X0 hx hby hml hret hlk hZ hown hnm e0
  replace hown : s.vm.findClass "java/lang/AbstractStringBuilder" = some m.cls := hown
  replace hnm : meth.name = "<init>" := hnm
  have hml : c.maxLocals = 2 := hml
  obtain ⟨oCS, oCz, oSF, r_wsf⟩ := id hO
  have N0 := Fr.nil Z.heap.size
  have K0 := Keep.refl h0 [a1]
  refine own_go (fun _ k => castTop (ef_asbinit m a1) k) ?_
  show own_Go p e below s _ _ _ (T.setTop (mkF m 0 #[rv a1, iv (16 : Int32)] []))
  refine own_go (fun _ k => XS.aloadN X0.here hx rfl (hb hby d44_0) rfl rfl k) ?_
  obtain ⟨T1, X1, e1, st1⟩ := initO X0 hx hZ hown (ow210 hw) (ow17 hw) (ow18 hw) e0 (g := (mkF m 1 #[rv a1, iv (16 : Int32)] [(.ref a1)])) rfl (by rw [hml]; rfl) rfl (hb hby d44_1) (by decide) (W := 0) (by show 2 * 0 + _ ≤ _; exact Nat.le_of_eq rfl) (by decide)
  refine own_go st1 ?_
  clear st1 X0 e0
  obtain ⟨T2, X2, e2, st2⟩ := getS2 X1 hx hZ hown (host := "") (Or.inl (ow211 hw)) Via.refl e1 (oCS.ext O0) (g := (mkF m 4 #[rv a1, iv (16 : Int32)] [])) rfl (hb hby d44_4)
  refine own_go st2 ?_
  clear st2 X1 e1
  refine own_go (fun _ k => XS.ifNo X2.here hx rfl (hb hby d44_7) rfl ((if0 _ _).trans (feq oCz).1) (XS.aloadN X2.here hx rfl (hb hby d44_10) rfl rfl (XS.iloadN X2.here hx rfl (hb hby d44_11) rfl k))) ?_
  obtain ⟨T3, h3, k3, X3, e3, E3, A3, st3⟩ := newP (aty := .byte) X2 hx hZ (ow24 hw) e2 (g := (mkF m 12 #[rv a1, iv (16 : Int32)] [(.int (16 : Int32)), (.ref a1)])) rfl (hb hby d44_12) rfl (by decide) (cap := 16) (by decide) (by decide) (by show _ ≤ 1; omega) (by show _ ≤ 16; omega)
  obtain ⟨b3, g3⟩ : ∃ z, z = h0.size := ⟨_, rfl⟩
  rw [← g3] at A3 st3
  refine own_go st3 ?_
  clear st3 X2 e2
  have ge3 := Nat.le_of_eq g3.symm
  have ne4 : a1 ≠ b3 := Nat.ne_of_lt (Nat.lt_of_lt_of_le fp0.lt ge3)
  have big5 : Z.heap.size ≤ b3 := Nat.le_trans O0.1 ge3
  have sz6 : h0.size ≤ b3 := Nat.le_trans K0.1 ge3
  replace fp0 := fp0.ext E3
  replace fp1 := fp1.ext E3
  replace fp2 := fp2.ext E3
  replace fp3 := fp3.ext E3
  replace O0 := own_oldExt O0 E3
  replace K0 := K0.ext E3
  clear E3
  have f7 : Arv Z h3 b3 k3 .byte (16 : Int32) [(.int (0 : Int32)), (.int (0 : Int32)), (.int (0 : Int32)), (.int (0 : Int32)), (.int (0 : Int32)), (.int (0 : Int32)), (.int (0 : Int32)), (.int (0 : Int32)), (.int (0 : Int32)), (.int (0 : Int32)), (.int (0 : Int32)), (.int (0 : Int32)), (.int (0 : Int32)), (.int (0 : Int32)), (.int (0 : Int32)), (.int (0 : Int32))] (.int (0 : Int32)) := (Arv.new A3 (by decide)).pad (pad_rep [] (.int (0 : Int32)) 16)
  obtain ⟨T8, h8, X8, e8, W8, st8⟩ := putF X3 hx hZ hown (host := "") (Or.inl (ow212 hw)) Via.refl e3 fp1 fp0 (Or.inl (ow213 hw)) (ow199 hw) (ty := (.array .byte)) own_fd0 rfl rfl (g := (mkF m 14 #[rv a1, iv (16 : Int32)] [(.ref b3), (.ref a1)])) rfl rfl (hb hby d44_14)
  refine own_go st8 ?_
  clear st8 X3 e3
  replace N0 := Fr.snoc X8 N0 big_a1
  replace fp0 := fp0.wr W8
  replace fp1 := fp1.same W8
  replace fp2 := fp2.other W8 (.inr (own_sn1 hw))
  replace fp3 := fp3.other W8 (.inr (own_sn2 hw))
  replace f7 := f7.other W8 ne4.symm
  replace O0 := own_oldWr O0 W8 big_a1
  replace K0 := K0.wr W8 (Or.inl (List.mem_of_getElem? (i := 0) rfl))
  clear W8
  show own_Go p e below s _ _ _ (T8.setTop (mkF m 17 #[rv a1, iv (16 : Int32)] []))
  refine own_go (fun _ k => XS.aloadN X8.here hx rfl (hb hby d44_17) rfl rfl (XS.iconst X8.here hx rfl (hb hby d44_18) k)) ?_
  obtain ⟨T9, h9, X9, e9, W9, st9⟩ := putFN X8 hx hZ hown (ow214 hw) Via.refl e8 fp2 fp0 (Or.inl (ow215 hw)) (ow199 hw) (ty := .byte) (v' := (.int (0 : Int32))) own_fd1 rfl (by decide) (g := (mkF m 19 #[rv a1, iv (16 : Int32)] [(.int (0 : Int32)), (.ref a1)])) rfl rfl (hb hby d44_19)
  refine own_go st9 ?_
  clear st9 X8 e8
  replace N0 := Fr.snoc X9 N0 big_a1
  replace fp0 := fp0.wr W9
  replace fp1 := fp1.other W9 (.inr (own_sn1 hw).symm)
  replace fp2 := fp2.same W9
  replace fp3 := fp3.other W9 (.inr (own_sn3 hw))
  replace f7 := f7.other W9 ne4.symm
  replace O0 := own_oldWr O0 W9 big_a1
  replace K0 := K0.wr W9 (Or.inl (List.mem_of_getElem? (i := 0) rfl))
  clear W9
  refine own_go (fun _ k => XS.goto X9.here hx rfl (pc0 := 22) (pc' := 38) rfl (hb hby d44_22) (by decide) (by decide) k) ?_
  show own_Go p e below s _ _ _ (T9.setTop (mkF m 38 #[rv a1, iv (16 : Int32)] []))
  refine own_retV X9 hx hlk e9 hret (hb hby d44_38) (by show _ ≤ 1; omega) (by show _ ≤ 16; omega) ?_
  exact ⟨b3, k3, [(.int (0 : Int32)), (.int (0 : Int32)), (.int (0 : Int32)), (.int (0 : Int32)), (.int (0 : Int32)), (.int (0 : Int32)), (.int (0 : Int32)), (.int (0 : Int32)), (.int (0 : Int32)), (.int (0 : Int32)), (.int (0 : Int32)), (.int (0 : Int32)), (.int (0 : Int32)), (.int (0 : Int32)), (.int (0 : Int32)), (.int (0 : Int32))], rfl, N0, K0, sz6, fp0, fp1, fp2, fp3, f7⟩
theorem d43_0 : decode jdk_67_method_1_code 0 = .ok (.aload_n 0, 1) := by decide +kernel
theorem d43_1 : decode jdk_67_method_1_code 1 = .ok (.bipush 16, 2) := by decide +kernel
theorem d43_3 : decode jdk_67_method_1_code 3 = .ok (.invokespecial 1, 3) := by decide +kernel
theorem d43_6 : decode jdk_67_method_1_code 6 = .ok (.return_, 1) := by decide +kernel
def Q_sbinit (Z : State) (zc : Int32) (wsf : Value) (a1 : Addr) (h0 : Heap) (v : Option Value) (h : Heap) (L : List Loc) : Prop := (∃ vb : Addr, ∃ kv : ClassId, ∃ vs : List Value, v = none ∧ Fr Z.heap.size L ∧ Keep h0 h [a1] ∧ h0.size ≤ vb ∧ Exa Z h a1 "java/lang/StringBuilder" ∧ Fld Z h a1 "java/lang/AbstractStringBuilder" "value" "[B" (.ref vb) ∧ Fld Z h a1 "java/lang/AbstractStringBuilder" "coder" "B" (.int (0 : Int32)) ∧ Fld Z h a1 "java/lang/AbstractStringBuilder" "count" "I" (.int (0 : Int32)) ∧ Arv Z h vb kv .byte (16 : Int32) vs (.int (0 : Int32)))
theorem ef_sbinit (m : MethodId) (x0 : Addr) : entryFrame m #[(.ref x0)] 1 = mkF m 0 #[rv x0] [] := by first | (simp [entryFrame, mkF, argsToLocals, Value.category]; done) | rfl
set_option maxRecDepth 65536 in
set_option maxHeartbeats 40000000 in
theorem rm_sbinit (l : Launch) (Z : State) (a0 : Array Value) (hw : own_W Z a0) {zc : Int32} {wsf : Value} (hO : own_Olds Z zc wsf) (ws : List Jvm.Cond) (a1 : Addr) (h0 : Heap) (O0 : Ext Z.heap h0) (fp0 : Exa Z h0 a1 "java/lang/StringBuilder") (fp1 : Fld Z h0 a1 "java/lang/AbstractStringBuilder" "value" "[B" .null) (fp2 : Fld Z h0 a1 "java/lang/AbstractStringBuilder" "coder" "B" (.int (0 : Int32))) (fp3 : Fld Z h0 a1 "java/lang/AbstractStringBuilder" "count" "I" (.int (0 : Int32))) (big_a1 : Z.heap.size ≤ a1) :
    own_MF l Z h0 own_y32 jdk_67_method_1_code 1 none ({ frames := 2, cells := 1, slots := 16, locals := 25 } : Room) #[(.ref a1)] (Q_sbinit Z zc wsf a1 h0) ws := by
  refine own_met (Q := (Q_sbinit Z zc wsf a1 h0)) _ _ (plainFor_of_name own_pn_8) ?_
  intro p e s m below meth c T X0 hx hby hml hret hlk hZ hown hnm e0
  replace hown : s.vm.findClass "java/lang/StringBuilder" = some m.cls := hown
  replace hnm : meth.name = "<init>" := hnm
  have hml : c.maxLocals = 1 := hml
  obtain ⟨oCS, oCz, oSF, r_wsf⟩ := id hO
  have N0 := Fr.nil Z.heap.size
  have K0 := Keep.refl h0 [a1]
  refine own_go (fun _ k => castTop (ef_sbinit m a1) k) ?_
  show own_Go p e below s _ _ _ (T.setTop (mkF m 0 #[rv a1] []))
  refine own_go (fun _ k => XS.aloadN X0.here hx rfl (hb hby d43_0) rfl rfl (XS.bipush X0.here hx rfl (hb hby d43_1) k)) ?_
  obtain ⟨v1, T1, L1, X1, hQ1, st1⟩ := own_callI (y := own_y31) X0 hx hZ hown (ow204 hw) (ow205 hw) (ow208 hw) (ow209 hw) (rm_asbinit l Z a0 hw hO [] a1 h0 O0 fp0 fp1 fp2 fp3 big_a1) 0 1 16 rfl (by show _ ≤ 1; omega) (by show _ ≤ 16; omega) e0 (g := (mkF m 3 #[rv a1] [(.int (16 : Int32)), (.ref a1)])) rfl (by rw [hml]; rfl) a1 [(.int (16 : Int32))] [] (lenOf own_pd_19 rfl) rfl rfl (hb hby d43_3)
  obtain ⟨w2, w3, w4, rfl, Nc12, Kc11, hb5, f6, f7, f8, f9, f10⟩ := hQ1
  refine own_go st1 ?_
  clear st1 X0 e0
  replace N0 := Fr.app N0 Nc12
  clear Nc12
  have ne13 : a1 ≠ w2 := Nat.ne_of_lt (Nat.lt_of_lt_of_le fp0.lt hb5)
  have big14 : Z.heap.size ≤ w2 := Nat.le_trans O0.1 hb5
  have sz15 : h0.size ≤ w2 := Nat.le_trans K0.1 hb5
  replace fp0 := fp0.keep Kc11
  clear fp1
  clear fp2
  clear fp3
  replace O0 := own_oldKeep O0 Kc11 (allS big_a1 all0)
  replace K0 := K0.trans Kc11 (allS (Or.inl (List.mem_of_getElem? (i := 0) rfl)) all0)
  clear Kc11
  show own_Go p e below s _ _ _ (T1.setTop (mkF m 6 #[rv a1] []))
  refine own_retV X1 hx hlk (rfl : T1.heap = T1.heap) hret (hb hby d43_6) (by show _ ≤ 1; omega) (by show _ ≤ 16; omega) ?_
  exact ⟨w2, w3, w4, rfl, N0, K0, sz15, f6, f7, f8, f9, f10⟩
theorem d49_0 : decode jdk_68_method_71_code 0 = .ok (.getstatic 18, 3) := by decide +kernel
theorem d49_3 : decode jdk_68_method_71_code 3 = .ok (.ifCond .eq 18, 3) := by decide +kernel
theorem d49_6 : decode jdk_68_method_71_code 6 = .ok (.aload_n 0, 1) := by decide +kernel
theorem d49_7 : decode jdk_68_method_71_code 7 = .ok (.getfield 22, 3) := by decide +kernel
theorem d49_10 : decode jdk_68_method_71_code 10 = .ok (.aload_n 1, 1) := by decide +kernel
theorem d49_11 : decode jdk_68_method_71_code 11 = .ok (.invokevirtual 40, 3) := by decide +kernel
theorem d49_14 : decode jdk_68_method_71_code 14 = .ok (.if_icmp .eq 7, 3) := by decide +kernel
theorem d49_21 : decode jdk_68_method_71_code 21 = .ok (.return_, 1) := by decide +kernel
def Q_infl (Z : State) (zc : Int32) (wsf : Value) (a1 : Addr) (a2 : Addr) (h0 : Heap) (v : Option Value) (h : Heap) (L : List Loc) : Prop := (v = none ∧ Fr Z.heap.size L ∧ h = h0)
theorem ef_infl (m : MethodId) (x0 : Addr) (x1 : Addr) : entryFrame m #[(.ref x0), (.ref x1)] 2 = mkF m 0 #[rv x0, rv x1] [] := by first | (simp [entryFrame, mkF, argsToLocals, Value.category]; done) | rfl
set_option maxRecDepth 65536 in
set_option maxHeartbeats 40000000 in
theorem rm_infl (l : Launch) (Z : State) (a0 : Array Value) (hw : own_W Z a0) {zc : Int32} {wsf : Value} (hO : own_Olds Z zc wsf) (ws : List Jvm.Cond) (a1 : Addr) (a2 : Addr) (h0 : Heap) (O0 : Ext Z.heap h0) (fp0 : Fld Z h0 a1 "java/lang/AbstractStringBuilder" "coder" "B" (.int (0 : Int32))) (fp1 : Fld Z h0 a2 "java/lang/String" "coder" "B" (.int (0 : Int32))) (fp2 : Exa Z h0 a2 "java/lang/String") :
    own_MF l Z h0 own_y33 jdk_68_method_71_code 2 none ({ frames := 1, cells := 0, slots := 0, locals := 13 } : Room) #[(.ref a1), (.ref a2)] (Q_infl Z zc wsf a1 a2 h0) ws := by
  refine own_met (Q := (Q_infl Z zc wsf a1 a2 h0)) _ _ (plainFor_of_name own_pn_7) ?_
  intro p e s m below meth c T X0 hx hby hml hret hlk hZ hown hnm e0
  replace hown : s.vm.findClass "java/lang/AbstractStringBuilder" = some m.cls := hown
  replace hnm : meth.name = "inflateIfNeededFor" := hnm
  have hml : c.maxLocals = 2 := hml
  obtain ⟨oCS, oCz, oSF, r_wsf⟩ := id hO
  have N0 := Fr.nil Z.heap.size
  have K0 := Keep.refl h0 []
  refine own_go (fun _ k => castTop (ef_infl m a1 a2) k) ?_
  show own_Go p e below s _ _ _ (T.setTop (mkF m 0 #[rv a1, rv a2] []))
  obtain ⟨T1, X1, e1, st1⟩ := getS2 X0 hx hZ hown (host := "") (Or.inl (ow211 hw)) Via.refl e0 (oCS.ext O0) (g := (mkF m 0 #[rv a1, rv a2] [])) rfl (hb hby d49_0)
  refine own_go st1 ?_
  clear st1 X0 e0
  refine own_go (fun _ k => XS.ifNo X1.here hx rfl (hb hby d49_3) rfl ((if0 _ _).trans (feq oCz).1) (XS.aloadN X1.here hx rfl (hb hby d49_6) rfl rfl k)) ?_
  obtain ⟨T2, X2, e2, st2⟩ := getF X1 hx hZ hown (host := "") (Or.inl (ow214 hw)) Via.refl e1 (fp0.keep K0 nin0) (g := (mkF m 7 #[rv a1, rv a2] [(.ref a1)])) rfl rfl (hb hby d49_7)
  refine own_go st2 ?_
  clear st2 X1 e1
  refine own_go (fun _ k => XS.aloadN X2.here hx rfl (hb hby d49_10) rfl rfl k) ?_
  obtain ⟨v3, T3, L3, X3, hQ3, st3⟩ := own_callV (y := own_y3) (z := own_y3) X2 hx hZ hown (ow244 hw) (ow74 hw) (notFace_of_selects (args := #[]) (mvT hZ (ow76 hw))) (ow76 hw) (ow75 hw) (ow7 hw) (ow77 hw) (rm_scoder l Z a0 hw hO [] a2 h0 O0 (fp1.keep K0 nin0)) 1 0 0 (by show _ ≤ 0; omega) (by show _ ≤ 0; omega) e2 (fp2.keep K0) (g := (mkF m 11 #[rv a1, rv a2] [(.ref a2), (.int (0 : Int32))])) rfl (by rw [hml]; rfl) [] [(.int (0 : Int32))] (lenOf own_pd_1 rfl) rfl rfl (hb hby d49_11)
  obtain ⟨rfl, Nc5, Kc4⟩ := hQ3
  refine own_go st3 ?_
  clear st3 X2 e2
  replace N0 := Fr.app N0 Nc5
  clear Nc5
  refine own_go (fun _ k => XS.icmpYes X3.here hx rfl (pc0 := 14) (pc' := 21) rfl (hb hby d49_14) rfl (teq (by decide : (0 : Int32) = (0 : Int32))).1 (by decide) (by decide) k) ?_
  show own_Go p e below s _ _ _ (T3.setTop (mkF m 21 #[rv a1, rv a2] []))
  refine own_retV X3 hx hlk Kc4 hret (hb hby d49_21) (by show _ ≤ 0; omega) (by show _ ≤ 0; omega) ?_
  exact ⟨rfl, N0, rfl⟩
theorem d47_0 : decode jdk_68_method_9_code 0 = .ok (.aload_n 0, 1) := by decide +kernel
theorem d47_1 : decode jdk_68_method_9_code 1 = .ok (.getfield 15, 3) := by decide +kernel
theorem d47_4 : decode jdk_68_method_9_code 4 = .ok (.arraylength, 1) := by decide +kernel
theorem d47_5 : decode jdk_68_method_9_code 5 = .ok (.aload_n 0, 1) := by decide +kernel
theorem d47_6 : decode jdk_68_method_9_code 6 = .ok (.getfield 22, 3) := by decide +kernel
theorem d47_9 : decode jdk_68_method_9_code 9 = .ok (.ishr, 1) := by decide +kernel
theorem d47_10 : decode jdk_68_method_9_code 10 = .ok (.istore_n 2, 1) := by decide +kernel
theorem d47_11 : decode jdk_68_method_9_code 11 = .ok (.iload_n 1, 1) := by decide +kernel
theorem d47_12 : decode jdk_68_method_9_code 12 = .ok (.iload_n 2, 1) := by decide +kernel
theorem d47_13 : decode jdk_68_method_9_code 13 = .ok (.isub, 1) := by decide +kernel
theorem d47_14 : decode jdk_68_method_9_code 14 = .ok (.ifCond .le 24, 3) := by decide +kernel
theorem d47_38 : decode jdk_68_method_9_code 38 = .ok (.return_, 1) := by decide +kernel
def Q_ecapG (Z : State) (zc : Int32) (wsf : Value) (a1 : Addr) (p2 : Int32) (vb : Addr) (kv : ClassId) (vs : List Value) (h0 : Heap) (v : Option Value) (h : Heap) (L : List Loc) : Prop := (v = none ∧ Fr Z.heap.size L ∧ h = h0)
theorem ef_ecapG (m : MethodId) (x0 : Addr) (x1 : Int32) : entryFrame m #[(.ref x0), (.int x1)] 3 = mkF m 0 #[rv x0, iv x1, .unset] [] := by first | (simp [entryFrame, mkF, argsToLocals, Value.category]; done) | rfl
set_option maxRecDepth 65536 in
set_option maxHeartbeats 40000000 in
theorem rm_ecapG (l : Launch) (Z : State) (a0 : Array Value) (hw : own_W Z a0) {zc : Int32} {wsf : Value} (hO : own_Olds Z zc wsf) (ws : List Jvm.Cond) (a1 : Addr) (p2 : Int32) (vb : Addr) (kv : ClassId) (vs : List Value) (h0 : Heap) (O0 : Ext Z.heap h0) (fp0 : Fld Z h0 a1 "java/lang/AbstractStringBuilder" "value" "[B" (.ref vb)) (fp1 : Fld Z h0 a1 "java/lang/AbstractStringBuilder" "coder" "B" (.int (0 : Int32))) (fp2 : Arv Z h0 vb kv .byte (16 : Int32) vs (.int (0 : Int32))) (hec : ¬ ((0 : Int32) < (p2 - (16 : Int32)))) :
    own_MF l Z h0 own_y34 jdk_68_method_9_code 3 none ({ frames := 0, cells := 0, slots := 0, locals := 0 } : Room) #[(.ref a1), (.int p2)] (Q_ecapG Z zc wsf a1 p2 vb kv vs h0) ws := by
  refine own_met (Q := (Q_ecapG Z zc wsf a1 p2 vb kv vs h0)) _ _ (plainFor_of_name own_pn_7) ?_
  intro p e s m below meth c T X0 hx hby hml hret hlk hZ hown hnm e0
  replace hown : s.vm.findClass "java/lang/AbstractStringBuilder" = some m.cls := hown
  replace hnm : meth.name = "ensureCapacityInternal" := hnm
  have hml : c.maxLocals = 3 := hml
  obtain ⟨oCS, oCz, oSF, r_wsf⟩ := id hO
  have N0 := Fr.nil Z.heap.size
  have K0 := Keep.refl h0 []
  refine own_go (fun _ k => castTop (ef_ecapG m a1 p2) k) ?_
  show own_Go p e below s _ _ _ (T.setTop (mkF m 0 #[rv a1, iv p2, .unset] []))
  refine own_go (fun _ k => XS.aloadN X0.here hx rfl (hb hby d47_0) rfl rfl k) ?_
  obtain ⟨T1, X1, e1, st1⟩ := getF X0 hx hZ hown (host := "") (Or.inl (ow212 hw)) Via.refl e0 (fp0.keep K0 nin0) (g := (mkF m 1 #[rv a1, iv p2, .unset] [(.ref a1)])) rfl rfl (hb hby d47_1)
  refine own_go st1 ?_
  clear st1 X0 e0
  show own_Go p e below s _ _ _ (T1.setTop (mkF m 4 #[rv a1, iv p2, .unset] [(.ref vb)]))
  obtain ⟨cl2, Ar2, -, S2, M2, -, -⟩ := id (fp2.keep K0 nin0)
  refine own_go (X1.arraylength hx (by rw [e1]; exact Ar2.1) (State.isArrayOf_alike hZ.alike Ar2.2.1) (g := (mkF m 4 #[rv a1, iv p2, .unset] [(.ref vb)])) rfl rfl (hb hby d47_4)) ?_
  rw [len_of S2 M2]
  refine own_go (fun _ k => XS.aloadN X1.here hx rfl (hb hby d47_5) rfl rfl k) ?_
  obtain ⟨T3, X3, e3, st3⟩ := getF X1 hx hZ hown (host := "") (Or.inl (ow214 hw)) Via.refl e1 (fp1.keep K0 nin0) (g := (mkF m 6 #[rv a1, iv p2, .unset] [(.ref a1), (.int (16 : Int32))])) rfl rfl (hb hby d47_6)
  refine own_go st3 ?_
  clear st3 X1 e1
  refine own_go (fun _ k => XS.ishr X3.here hx rfl (hb hby d47_9) rfl k) ?_
  show own_Go p e below s _ _ _ (T3.setTop (mkF m 10 #[rv a1, iv p2, .unset] [(.int ((16 : Int32) >>> ((0 : Int32) &&& 31)))]))
  rw [show ((16 : Int32) >>> ((0 : Int32) &&& 31)) = (16 : Int32) from by decide]
  refine own_go (fun _ k => XS.istoreN X3.here hx rfl (hb hby d47_10) rfl (l' := #[rv a1, iv p2, iv (16 : Int32)]) rfl (XS.iloadN X3.here hx rfl (hb hby d47_11) rfl (XS.iloadN X3.here hx rfl (hb hby d47_12) rfl (XS.isub X3.here hx rfl (hb hby d47_13) rfl k)))) ?_
  show own_Go p e below s _ _ _ (T3.setTop (mkF m 14 #[rv a1, iv p2, iv (16 : Int32)] [(.int (p2 - (16 : Int32)))]))
  refine own_go (fun _ k => XS.ifYes X3.here hx rfl (pc0 := 14) (pc' := 38) rfl (hb hby d47_14) rfl ((if0 _ _).trans (flt hec).2.2.2) (by decide) (by decide) k) ?_
  show own_Go p e below s _ _ _ (T3.setTop (mkF m 38 #[rv a1, iv p2, iv (16 : Int32)] []))
  refine own_retV X3 hx hlk e3 hret (hb hby d47_38) (by show _ ≤ 0; omega) (by show _ ≤ 0; omega) ?_
  exact ⟨rfl, N0, rfl⟩
theorem d50_0 : decode jdk_42_method_147_code 0 = .ok (.aload_n 0, 1) := by decide +kernel
theorem d50_1 : decode jdk_42_method_147_code 1 = .ok (.invokevirtual 335, 3) := by decide +kernel
theorem d50_4 : decode jdk_42_method_147_code 4 = .ok (.iload_n 3, 1) := by decide +kernel
theorem d50_5 : decode jdk_42_method_147_code 5 = .ok (.if_icmp .ne 23, 3) := by decide +kernel
theorem d50_8 : decode jdk_42_method_147_code 8 = .ok (.aload_n 0, 1) := by decide +kernel
theorem d50_9 : decode jdk_42_method_147_code 9 = .ok (.getfield 9, 3) := by decide +kernel
theorem d50_12 : decode jdk_42_method_147_code 12 = .ok (.iconst 0, 1) := by decide +kernel
theorem d50_13 : decode jdk_42_method_147_code 13 = .ok (.aload_n 1, 1) := by decide +kernel
theorem d50_14 : decode jdk_42_method_147_code 14 = .ok (.iload_n 2, 1) := by decide +kernel
theorem d50_15 : decode jdk_42_method_147_code 15 = .ok (.iload_n 3, 1) := by decide +kernel
theorem d50_16 : decode jdk_42_method_147_code 16 = .ok (.ishl, 1) := by decide +kernel
theorem d50_17 : decode jdk_42_method_147_code 17 = .ok (.aload_n 0, 1) := by decide +kernel
theorem d50_18 : decode jdk_42_method_147_code 18 = .ok (.getfield 9, 3) := by decide +kernel
theorem d50_21 : decode jdk_42_method_147_code 21 = .ok (.arraylength, 1) := by decide +kernel
theorem d50_22 : decode jdk_42_method_147_code 22 = .ok (.invokestatic 212, 3) := by decide +kernel
theorem d50_25 : decode jdk_42_method_147_code 25 = .ok (.goto 18, 3) := by decide +kernel
theorem d50_43 : decode jdk_42_method_147_code 43 = .ok (.return_, 1) := by decide +kernel
def Q_gbyG (Z : State) (zc : Int32) (wsf : Value) (a1 : Addr) (vb : Addr) (p3 : Int32) (kv : ClassId) (vs : List Value) (t : Addr) (kt : ClassId) (nz : Int32) (vl : List Value) (h0 : Heap) (v : Option Value) (h : Heap) (L : List Loc) : Prop := (∃ ls : List Value, v = none ∧ Fr Z.heap.size L ∧ Keep h0 h [vb] ∧ Arv Z h vb kv .byte (16 : Int32) ls (.int (0 : Int32)))
theorem ef_gbyG (m : MethodId) (x0 : Addr) (x1 : Addr) (x2 : Int32) : entryFrame m #[(.ref x0), (.ref x1), (.int x2), (.int (0 : Int32))] 4 = mkF m 0 #[rv x0, rv x1, iv x2, iv (0 : Int32)] [] := by first | (simp [entryFrame, mkF, argsToLocals, Value.category]; done) | rfl
set_option maxRecDepth 65536 in
set_option maxHeartbeats 40000000 in
theorem rm_gbyG (l : Launch) (Z : State) (a0 : Array Value) (hw : own_W Z a0) {zc : Int32} {wsf : Value} (hO : own_Olds Z zc wsf) (ws : List Jvm.Cond) (a1 : Addr) (vb : Addr) (p3 : Int32) (kv : ClassId) (vs : List Value) (t : Addr) (kt : ClassId) (nz : Int32) (vl : List Value) (h0 : Heap) (O0 : Ext Z.heap h0) (fp0 : Exa Z h0 a1 "java/lang/String") (fp1 : Fld Z h0 a1 "java/lang/String" "value" "[B" (.ref t)) (fp2 : Fld Z h0 a1 "java/lang/String" "coder" "B" (.int (0 : Int32))) (fp3 : Arv Z h0 t kt .byte nz vl (.int (0 : Int32))) (fp4 : Arv Z h0 vb kv .byte (16 : Int32) vs (.int (0 : Int32))) (big_vb : Z.heap.size ≤ vb) (ne_t_vb : t ≠ vb) (hft : own_Ft p3 nz) :
    own_MF l Z h0 own_y35 jdk_42_method_147_code 4 none ({ frames := 2, cells := 0, slots := 0, locals := 30 } : Room) #[(.ref a1), (.ref vb), (.int p3), (.int (0 : Int32))] (Q_gbyG Z zc wsf a1 vb p3 kv vs t kt nz vl h0) ws := by
  refine own_met (Q := (Q_gbyG Z zc wsf a1 vb p3 kv vs t kt nz vl h0)) _ _ (plainFor_of_name own_pn_0) ?_
  intro p e s m below meth c T X0 hx hby hml hret hlk hZ hown hnm e0
  replace hown : s.vm.findClass "java/lang/String" = some m.cls := hown
  replace hnm : meth.name = "getBytes" := hnm
  have hml : c.maxLocals = 4 := hml
  obtain ⟨oCS, oCz, oSF, r_wsf⟩ := id hO
  have N0 := Fr.nil Z.heap.size
  have K0 := Keep.refl h0 [vb]
  refine own_go (fun _ k => castTop (ef_gbyG m a1 vb p3) k) ?_
  have ne1 : a1 ≠ vb := (Exa.neArv fp0 fp4 (ow6 hw))
  show own_Go p e below s _ _ _ (T.setTop (mkF m 0 #[rv a1, rv vb, iv p3, iv (0 : Int32)] []))
  refine own_go (fun _ k => XS.aloadN X0.here hx rfl (hb hby d50_0) rfl rfl k) ?_
  obtain ⟨v2, T2, L2, X2, hQ2, st2⟩ := own_callV (y := own_y3) (z := own_y3) X0 hx hZ hown (ow73 hw) (ow74 hw) (notFace_of_selects (args := #[]) (mvT hZ (ow76 hw))) (ow76 hw) (ow75 hw) (ow7 hw) (ow77 hw) (rm_scoder l Z a0 hw hO [] a1 h0 O0 (fp2.keep K0 (ninS ne1 nin0))) 0 0 0 (by show _ ≤ 0; omega) (by show _ ≤ 0; omega) e0 (fp0.keep K0) (g := (mkF m 1 #[rv a1, rv vb, iv p3, iv (0 : Int32)] [(.ref a1)])) rfl (by rw [hml]; rfl) [] [] (lenOf own_pd_1 rfl) rfl rfl (hb hby d50_1)
  obtain ⟨rfl, Nc4, Kc3⟩ := hQ2
  refine own_go st2 ?_
  clear st2 X0 e0
  replace N0 := Fr.app N0 Nc4
  clear Nc4
  refine own_go (fun _ k => XS.iloadN X2.here hx rfl (hb hby d50_4) rfl (XS.icmpNo X2.here hx rfl (hb hby d50_5) rfl (teq (by decide : (0 : Int32) = (0 : Int32))).2 (XS.aloadN X2.here hx rfl (hb hby d50_8) rfl rfl k))) ?_
  obtain ⟨T5, X5, e5, st5⟩ := getF X2 hx hZ hown (host := "") (Or.inl (ow33 hw)) Via.refl Kc3 (fp1.keep K0 (ninS ne1 nin0)) (g := (mkF m 9 #[rv a1, rv vb, iv p3, iv (0 : Int32)] [(.ref a1)])) rfl rfl (hb hby d50_9)
  refine own_go st5 ?_
  clear st5 X2 Kc3
  refine own_go (fun _ k => XS.iconst X5.here hx rfl (hb hby d50_12) (XS.aloadN X5.here hx rfl (hb hby d50_13) rfl rfl k)) ?_
  show own_Go p e below s _ _ _ (T5.setTop (mkF m 14 #[rv a1, rv vb, iv p3, iv (0 : Int32)] [(.ref vb), (.int (0 : Int32)), (.ref t)]))
  refine own_go (fun _ k => XS.iloadN X5.here hx rfl (hb hby d50_14) rfl (XS.iloadN X5.here hx rfl (hb hby d50_15) rfl (XS.ishl X5.here hx rfl (hb hby d50_16) rfl k))) ?_
  show own_Go p e below s _ _ _ (T5.setTop (mkF m 17 #[rv a1, rv vb, iv p3, iv (0 : Int32)] [(.int (p3 <<< ((0 : Int32) &&& 31))), (.ref vb), (.int (0 : Int32)), (.ref t)]))
  rw [own_shl0 p3]
  refine own_go (fun _ k => XS.aloadN X5.here hx rfl (hb hby d50_17) rfl rfl k) ?_
  obtain ⟨T6, X6, e6, st6⟩ := getF X5 hx hZ hown (host := "") (Or.inl (ow33 hw)) Via.refl e5 (fp1.keep K0 (ninS ne1 nin0)) (g := (mkF m 18 #[rv a1, rv vb, iv p3, iv (0 : Int32)] [(.ref a1), (.int p3), (.ref vb), (.int (0 : Int32)), (.ref t)])) rfl rfl (hb hby d50_18)
  refine own_go st6 ?_
  clear st6 X5 e5
  show own_Go p e below s _ _ _ (T6.setTop (mkF m 21 #[rv a1, rv vb, iv p3, iv (0 : Int32)] [(.ref t), (.int p3), (.ref vb), (.int (0 : Int32)), (.ref t)]))
  obtain ⟨cl7, Ar7, -, S7, M7, -, -⟩ := id (fp3.keep K0 (ninS ne_t_vb nin0))
  refine own_go (X6.arraylength hx (by rw [e6]; exact Ar7.1) (State.isArrayOf_alike hZ.alike Ar7.2.1) (g := (mkF m 21 #[rv a1, rv vb, iv p3, iv (0 : Int32)] [(.ref t), (.int p3), (.ref vb), (.int (0 : Int32)), (.ref t)])) rfl rfl (hb hby d50_21)) ?_
  rw [len_of S7 M7]
  have pd8 := (fp4).pad (pad_rep _ (.int (0 : Int32)) 16)
  obtain ⟨T8, h8, L8, X8, e8, Nn8, Kn8, Fn8, st8⟩ := cpA X6 hx hZ hown (ow250 hw) (ow184 hw) (ow182 hw) (ow183 hw) e6 (fp3.keep K0 (ninS ne_t_vb nin0)) pd8 (Or.inl ⟨rfl, rfl⟩) (by decide) hft.1 hft.2.1 (own_ft4 hft) hft.2.2 rfl (own_ft6 hft) N0 big_vb (g := (mkF m 22 #[rv a1, rv vb, iv p3, iv (0 : Int32)] [(.int nz), (.int p3), (.ref vb), (.int (0 : Int32)), (.ref t)])) rfl (by rw [hml]; rfl) rfl (hb hby d50_22) (by decide) (W := 0) (Nat.le_of_eq rfl) (by decide)
  refine own_go st8 ?_
  clear st8 X6 e6
  replace N0 := Nn8
  clear fp4
  replace O0 := own_oldKeep O0 Kn8 (allS big_vb all0)
  replace K0 := K0.trans Kn8 (allS (Or.inl (List.mem_of_getElem? (i := 0) rfl)) all0)
  clear Kn8
  refine own_go (fun _ k => XS.goto X8.here hx rfl (pc0 := 25) (pc' := 43) rfl (hb hby d50_25) (by decide) (by decide) k) ?_
  show own_Go p e below s _ _ _ (T8.setTop (mkF m 43 #[rv a1, rv vb, iv p3, iv (0 : Int32)] []))
  refine own_retV X8 hx hlk e8 hret (hb hby d50_43) (by show _ ≤ 0; omega) (by show _ ≤ 0; omega) ?_
  exact ⟨_, rfl, N0, K0, Fn8⟩
theorem d48_0 : decode jdk_68_method_73_code 0 = .ok (.aload_n 0, 1) := by decide +kernel
theorem d48_1 : decode jdk_68_method_73_code 1 = .ok (.aload_n 2, 1) := by decide +kernel
theorem d48_2 : decode jdk_68_method_73_code 2 = .ok (.invokevirtual 397, 3) := by decide +kernel
theorem d48_5 : decode jdk_68_method_73_code 5 = .ok (.aload_n 2, 1) := by decide +kernel
theorem d48_6 : decode jdk_68_method_73_code 6 = .ok (.aload_n 0, 1) := by decide +kernel
theorem d48_7 : decode jdk_68_method_73_code 7 = .ok (.getfield 15, 3) := by decide +kernel
theorem d48_10 : decode jdk_68_method_73_code 10 = .ok (.iload_n 1, 1) := by decide +kernel
theorem d48_11 : decode jdk_68_method_73_code 11 = .ok (.aload_n 0, 1) := by decide +kernel
theorem d48_12 : decode jdk_68_method_73_code 12 = .ok (.getfield 22, 3) := by decide +kernel
theorem d48_15 : decode jdk_68_method_73_code 15 = .ok (.invokevirtual 399, 3) := by decide +kernel
theorem d48_18 : decode jdk_68_method_73_code 18 = .ok (.return_, 1) := by decide +kernel
def Q_psaG (Z : State) (zc : Int32) (wsf : Value) (a1 : Addr) (cn : Int32) (a2 : Addr) (vb : Addr) (kv : ClassId) (vs : List Value) (t : Addr) (kt : ClassId) (nz : Int32) (vl : List Value) (h0 : Heap) (v : Option Value) (h : Heap) (L : List Loc) : Prop := (∃ ls : List Value, v = none ∧ Fr Z.heap.size L ∧ Keep h0 h [vb] ∧ Arv Z h vb kv .byte (16 : Int32) ls (.int (0 : Int32)))
theorem ef_psaG (m : MethodId) (x0 : Addr) (x1 : Int32) (x2 : Addr) : entryFrame m #[(.ref x0), (.int x1), (.ref x2)] 3 = mkF m 0 #[rv x0, iv x1, rv x2] [] := by first | (simp [entryFrame, mkF, argsToLocals, Value.category]; done) | rfl
set_option maxRecDepth 65536 in
set_option maxHeartbeats 40000000 in
theorem rm_psaG (l : Launch) (Z : State) (a0 : Array Value) (hw : own_W Z a0) {zc : Int32} {wsf : Value} (hO : own_Olds Z zc wsf) (ws : List Jvm.Cond) (a1 : Addr) (cn : Int32) (a2 : Addr) (vb : Addr) (kv : ClassId) (vs : List Value) (t : Addr) (kt : ClassId) (nz : Int32) (vl : List Value) (h0 : Heap) (O0 : Ext Z.heap h0) (fp0 : Exa Z h0 a1 "java/lang/StringBuilder") (fp1 : Fld Z h0 a1 "java/lang/AbstractStringBuilder" "value" "[B" (.ref vb)) (fp2 : Fld Z h0 a1 "java/lang/AbstractStringBuilder" "coder" "B" (.int (0 : Int32))) (fp3 : Fld Z h0 a1 "java/lang/AbstractStringBuilder" "count" "I" (.int cn)) (fp4 : Arv Z h0 vb kv .byte (16 : Int32) vs (.int (0 : Int32))) (fp5 : Exa Z h0 a2 "java/lang/String") (fp6 : Fld Z h0 a2 "java/lang/String" "value" "[B" (.ref t)) (fp7 : Fld Z h0 a2 "java/lang/String" "coder" "B" (.int (0 : Int32))) (fp8 : Arv Z h0 t kt .byte nz vl (.int (0 : Int32))) (big_vb : Z.heap.size ≤ vb) (ne_t_vb : t ≠ vb) (ne_a1_vb : a1 ≠ vb) (hft : own_Ft cn nz) :
    own_MF l Z h0 own_y36 jdk_68_method_73_code 3 none ({ frames := 3, cells := 0, slots := 0, locals := 45 } : Room) #[(.ref a1), (.int cn), (.ref a2)] (Q_psaG Z zc wsf a1 cn a2 vb kv vs t kt nz vl h0) ws := by
  refine own_met (Q := (Q_psaG Z zc wsf a1 cn a2 vb kv vs t kt nz vl h0)) _ _ (plainFor_of_name own_pn_7) ?_
  intro p e s m below meth c T X0 hx hby hml hret hlk hZ hown hnm e0
  replace hown : s.vm.findClass "java/lang/AbstractStringBuilder" = some m.cls := hown
  replace hnm : meth.name = "putStringAt" := hnm
  have hml : c.maxLocals = 3 := hml
  obtain ⟨oCS, oCz, oSF, r_wsf⟩ := id hO
  have N0 := Fr.nil Z.heap.size
  have K0 := Keep.refl h0 [vb]
  refine own_go (fun _ k => castTop (ef_psaG m a1 cn a2) k) ?_
  have ne1 : a2 ≠ vb := (Exa.neArv fp5 fp4 (ow6 hw))
  show own_Go p e below s _ _ _ (T.setTop (mkF m 0 #[rv a1, iv cn, rv a2] []))
  refine own_go (fun _ k => XS.aloadN X0.here hx rfl (hb hby d48_0) rfl rfl (XS.aloadN X0.here hx rfl (hb hby d48_1) rfl rfl k)) ?_
  obtain ⟨v2, T2, L2, X2, hQ2, st2⟩ := own_callP (y := own_y33) X0 hx hZ hown (ow239 hw) (ow240 hw) (own_selSelf (ow242 hw) (ow241 hw) (ow240 hw) (by decide)) (ow241 hw) (ow208 hw) (ow243 hw) (rm_infl l Z a0 hw hO [] a1 a2 h0 O0 (fp2.keep K0 (ninS ne_a1_vb nin0)) (fp7.keep K0 (ninS ne1 nin0)) (fp5.keep K0)) 0 0 0 (by show _ ≤ 0; omega) (by show _ ≤ 0; omega) e0 (fp0.keep K0) (g := (mkF m 2 #[rv a1, iv cn, rv a2] [(.ref a2), (.ref a1)])) rfl (by rw [hml]; rfl) [(.ref a2)] [] (lenOf own_pd_20 rfl) rfl rfl (hb hby d48_2)
  obtain ⟨rfl, Nc4, Kc3⟩ := hQ2
  refine own_go st2 ?_
  clear st2 X0 e0
  replace N0 := Fr.app N0 Nc4
  clear Nc4
  refine own_go (fun _ k => XS.aloadN X2.here hx rfl (hb hby d48_5) rfl rfl (XS.aloadN X2.here hx rfl (hb hby d48_6) rfl rfl k)) ?_
  obtain ⟨T5, X5, e5, st5⟩ := getF X2 hx hZ hown (host := "") (Or.inl (ow212 hw)) Via.refl Kc3 (fp1.keep K0 (ninS ne_a1_vb nin0)) (g := (mkF m 7 #[rv a1, iv cn, rv a2] [(.ref a1), (.ref a2)])) rfl rfl (hb hby d48_7)
  refine own_go st5 ?_
  clear st5 X2 Kc3
  refine own_go (fun _ k => XS.iloadN X5.here hx rfl (hb hby d48_10) rfl (XS.aloadN X5.here hx rfl (hb hby d48_11) rfl rfl k)) ?_
  show own_Go p e below s _ _ _ (T5.setTop (mkF m 12 #[rv a1, iv cn, rv a2] [(.ref a1), (.int cn), (.ref vb), (.ref a2)]))
  obtain ⟨T6, X6, e6, st6⟩ := getF X5 hx hZ hown (host := "") (Or.inl (ow214 hw)) Via.refl e5 (fp2.keep K0 (ninS ne_a1_vb nin0)) (g := (mkF m 12 #[rv a1, iv cn, rv a2] [(.ref a1), (.int cn), (.ref vb), (.ref a2)])) rfl rfl (hb hby d48_12)
  refine own_go st6 ?_
  clear st6 X5 e5
  obtain ⟨v7, T7, L7, X7, hQ7, st7⟩ := own_callV (y := own_y35) (z := own_y35) X6 hx hZ hown (ow245 hw) (ow246 hw) (notFace_of_selects (args := #[]) (mvT hZ (ow248 hw))) (ow248 hw) (ow247 hw) (ow7 hw) (ow249 hw) (rm_gbyG l Z a0 hw hO [] a2 vb cn kv (vs : List Value) t kt nz (vl : List Value) h0 O0 (fp5.keep K0) (fp6.keep K0 (ninS ne1 nin0)) (fp7.keep K0 (ninS ne1 nin0)) (fp8.keep K0 (ninS ne_t_vb nin0)) fp4 big_vb ne_t_vb hft) 0 0 0 (by show _ ≤ 0; omega) (by show _ ≤ 0; omega) e6 (fp5.keep K0) (g := (mkF m 15 #[rv a1, iv cn, rv a2] [(.int (0 : Int32)), (.int cn), (.ref vb), (.ref a2)])) rfl (by rw [hml]; rfl) [(.ref vb), (.int cn), (.int (0 : Int32))] [] (lenOf own_pd_21 rfl) rfl rfl (hb hby d48_15)
  obtain ⟨w8, rfl, Nc11, Kc10, f9⟩ := hQ7
  refine own_go st7 ?_
  clear st7 X6 e6
  replace N0 := Fr.app N0 Nc11
  clear Nc11
  clear fp4
  replace O0 := own_oldKeep O0 Kc10 (allS big_vb all0)
  replace K0 := K0.trans Kc10 (allS (Or.inl (List.mem_of_getElem? (i := 0) rfl)) all0)
  clear Kc10
  show own_Go p e below s _ _ _ (T7.setTop (mkF m 18 #[rv a1, iv cn, rv a2] []))
  refine own_retV X7 hx hlk (rfl : T7.heap = T7.heap) hret (hb hby d48_18) (by show _ ≤ 0; omega) (by show _ ≤ 0; omega) ?_
  exact ⟨w8, rfl, N0, K0, f9⟩
theorem d46_0 : decode jdk_68_method_22_code 0 = .ok (.aload_n 1, 1) := by decide +kernel
theorem d46_1 : decode jdk_68_method_22_code 1 = .ok (.ifnonnull 8, 3) := by decide +kernel
theorem d46_9 : decode jdk_68_method_22_code 9 = .ok (.aload_n 1, 1) := by decide +kernel
theorem d46_10 : decode jdk_68_method_22_code 10 = .ok (.invokevirtual 32, 3) := by decide +kernel
theorem d46_13 : decode jdk_68_method_22_code 13 = .ok (.istore_n 2, 1) := by decide +kernel
theorem d46_14 : decode jdk_68_method_22_code 14 = .ok (.aload_n 0, 1) := by decide +kernel
theorem d46_15 : decode jdk_68_method_22_code 15 = .ok (.aload_n 0, 1) := by decide +kernel
theorem d46_16 : decode jdk_68_method_22_code 16 = .ok (.getfield 79, 3) := by decide +kernel
theorem d46_19 : decode jdk_68_method_22_code 19 = .ok (.iload_n 2, 1) := by decide +kernel
theorem d46_20 : decode jdk_68_method_22_code 20 = .ok (.iadd, 1) := by decide +kernel
theorem d46_21 : decode jdk_68_method_22_code 21 = .ok (.invokevirtual 100, 3) := by decide +kernel
theorem d46_24 : decode jdk_68_method_22_code 24 = .ok (.aload_n 0, 1) := by decide +kernel
theorem d46_25 : decode jdk_68_method_22_code 25 = .ok (.aload_n 0, 1) := by decide +kernel
theorem d46_26 : decode jdk_68_method_22_code 26 = .ok (.getfield 79, 3) := by decide +kernel
theorem d46_29 : decode jdk_68_method_22_code 29 = .ok (.aload_n 1, 1) := by decide +kernel
theorem d46_30 : decode jdk_68_method_22_code 30 = .ok (.invokevirtual 208, 3) := by decide +kernel
theorem d46_33 : decode jdk_68_method_22_code 33 = .ok (.aload_n 0, 1) := by decide +kernel
theorem d46_34 : decode jdk_68_method_22_code 34 = .ok (.dup, 1) := by decide +kernel
theorem d46_35 : decode jdk_68_method_22_code 35 = .ok (.getfield 79, 3) := by decide +kernel
theorem d46_38 : decode jdk_68_method_22_code 38 = .ok (.iload_n 2, 1) := by decide +kernel
theorem d46_39 : decode jdk_68_method_22_code 39 = .ok (.iadd, 1) := by decide +kernel
theorem d46_40 : decode jdk_68_method_22_code 40 = .ok (.putfield 79, 3) := by decide +kernel
theorem d46_43 : decode jdk_68_method_22_code 43 = .ok (.aload_n 0, 1) := by decide +kernel
theorem d46_44 : decode jdk_68_method_22_code 44 = .ok (.areturn, 1) := by decide +kernel
def Q_aappG (Z : State) (zc : Int32) (wsf : Value) (a1 : Addr) (a2 : Addr) (vb : Addr) (kv : ClassId) (vs : List Value) (t : Addr) (kt : ClassId) (nz : Int32) (vl : List Value) (cn : Int32) (cm : Int32) (h0 : Heap) (v : Option Value) (h : Heap) (L : List Loc) : Prop := (∃ ls : List Value, v = some (.ref a1) ∧ Fr Z.heap.size L ∧ Keep h0 h [a1, vb] ∧ Exa Z h a1 "java/lang/StringBuilder" ∧ Fld Z h a1 "java/lang/AbstractStringBuilder" "value" "[B" (.ref vb) ∧ Fld Z h a1 "java/lang/AbstractStringBuilder" "coder" "B" (.int (0 : Int32)) ∧ Fld Z h a1 "java/lang/AbstractStringBuilder" "count" "I" (.int cm) ∧ Arv Z h vb kv .byte (16 : Int32) ls (.int (0 : Int32)))
theorem ef_aappG (m : MethodId) (x0 : Addr) (x1 : Addr) : entryFrame m #[(.ref x0), (.ref x1)] 3 = mkF m 0 #[rv x0, rv x1, .unset] [] := by first | (simp [entryFrame, mkF, argsToLocals, Value.category]; done) | rfl
set_option maxRecDepth 65536 in
set_option maxHeartbeats 40000000 in
theorem rm_aappG (l : Launch) (Z : State) (a0 : Array Value) (hw : own_W Z a0) {zc : Int32} {wsf : Value} (hO : own_Olds Z zc wsf) (ws : List Jvm.Cond) (a1 : Addr) (a2 : Addr) (vb : Addr) (kv : ClassId) (vs : List Value) (t : Addr) (kt : ClassId) (nz : Int32) (vl : List Value) (cn : Int32) (cm : Int32) (h0 : Heap) (O0 : Ext Z.heap h0) (fp0 : Exa Z h0 a1 "java/lang/StringBuilder") (fp1 : Fld Z h0 a1 "java/lang/AbstractStringBuilder" "value" "[B" (.ref vb)) (fp2 : Fld Z h0 a1 "java/lang/AbstractStringBuilder" "coder" "B" (.int (0 : Int32))) (fp3 : Fld Z h0 a1 "java/lang/AbstractStringBuilder" "count" "I" (.int cn)) (fp4 : Arv Z h0 vb kv .byte (16 : Int32) vs (.int (0 : Int32))) (fp5 : Exa Z h0 a2 "java/lang/String") (fp6 : Fld Z h0 a2 "java/lang/String" "value" "[B" (.ref t)) (fp7 : Fld Z h0 a2 "java/lang/String" "coder" "B" (.int (0 : Int32))) (fp8 : Arv Z h0 t kt .byte nz vl (.int (0 : Int32))) (big_a1 : Z.heap.size ≤ a1) (big_vb : Z.heap.size ≤ vb) (ne_t_vb : t ≠ vb) (hft : own_Ft cn nz) (hcm : (cn + nz) = cm) (hec : ¬ ((0 : Int32) < (cm - (16 : Int32)))) :
    own_MF l Z h0 own_y37 jdk_68_method_22_code 3 (some (.object "java/lang/AbstractStringBuilder")) ({ frames := 4, cells := 0, slots := 0, locals := 59 } : Room) #[(.ref a1), (.ref a2)] (Q_aappG Z zc wsf a1 a2 vb kv vs t kt nz vl cn cm h0) ws := by
  refine own_met (Q := (Q_aappG Z zc wsf a1 a2 vb kv vs t kt nz vl cn cm h0)) _ _ (plainFor_of_name own_pn_7) ?_
  intro p e s m below meth c T X0 hx hby hml hret hlk hZ hown hnm e0
  replace hown : s.vm.findClass "java/lang/AbstractStringBuilder" = some m.cls := hown
  replace hnm : meth.name = "append" := hnm
  have hml : c.maxLocals = 3 := hml
  obtain ⟨oCS, oCz, oSF, r_wsf⟩ := id hO
  have N0 := Fr.nil Z.heap.size
  have K0 := Keep.refl h0 [a1, vb]
  refine own_go (fun _ k => castTop (ef_aappG m a1 a2) k) ?_
  have ne1 : a2 ≠ a1 := (ne_exa fp5 fp0 (by decide))
  have ne2 : a2 ≠ vb := (Exa.neArv fp5 fp4 (ow6 hw))
  have ne3 : t ≠ a1 := (Ne.symm (Exa.neArv fp0 fp8 (ow199 hw)))
  show own_Go p e below s _ _ _ (T.setTop (mkF m 0 #[rv a1, rv a2, .unset] []))
  refine own_go (fun _ k => XS.aloadN X0.here hx rfl (hb hby d46_0) rfl rfl (XS.ifnonnullYes X0.here hx rfl (pc0 := 1) (pc' := 9) rfl (hb hby d46_1) rfl (by decide) (by decide) (XS.aloadN X0.here hx rfl (hb hby d46_9) rfl rfl k))) ?_
  obtain ⟨v4, T4, L4, X4, hQ4, st4⟩ := own_callV (y := own_y4) (z := own_y4) X0 hx hZ hown (ow226 hw) (ow69 hw) (notFace_of_selects (args := #[]) (mvT hZ (ow71 hw))) (ow71 hw) (ow70 hw) (ow7 hw) (ow72 hw) (rm_slenG l Z a0 hw hO [] a2 t kt nz (vl : List Value) h0 O0 (fp5.keep K0) (fp6.keep K0 (ninS ne1 (ninS ne2 nin0))) (fp7.keep K0 (ninS ne1 (ninS ne2 nin0))) (fp8.keep K0 (ninS ne3 (ninS ne_t_vb nin0)))) 0 0 0 (by show _ ≤ 0; omega) (by show _ ≤ 0; omega) e0 (fp5.keep K0) (g := (mkF m 10 #[rv a1, rv a2, .unset] [(.ref a2)])) rfl (by rw [hml]; rfl) [] [] (lenOf own_pd_6 rfl) rfl rfl (hb hby d46_10)
  obtain ⟨rfl, Nc6, Kc5⟩ := hQ4
  refine own_go st4 ?_
  clear st4 X0 e0
  replace N0 := Fr.app N0 Nc6
  clear Nc6
  refine own_go (fun _ k => XS.istoreN X4.here hx rfl (hb hby d46_13) rfl (l' := #[rv a1, rv a2, iv nz]) rfl (XS.aloadN X4.here hx rfl (hb hby d46_14) rfl rfl (XS.aloadN X4.here hx rfl (hb hby d46_15) rfl rfl k))) ?_
  obtain ⟨T7, X7, e7, st7⟩ := getF X4 hx hZ hown (host := "") (Or.inl (ow227 hw)) Via.refl Kc5 fp3 (g := (mkF m 16 #[rv a1, rv a2, iv nz] [(.ref a1), (.ref a1)])) rfl rfl (hb hby d46_16)
  refine own_go st7 ?_
  clear st7 X4 Kc5
  show own_Go p e below s _ _ _ (T7.setTop (mkF m 19 #[rv a1, rv a2, iv nz] [(.int cn), (.ref a1)]))
  refine own_go (fun _ k => XS.iloadN X7.here hx rfl (hb hby d46_19) rfl (XS.iadd X7.here hx rfl (hb hby d46_20) rfl k)) ?_
  show own_Go p e below s _ _ _ (T7.setTop (mkF m 21 #[rv a1, rv a2, iv nz] [(.int (cn + nz)), (.ref a1)]))
  rw [hcm]
  show own_Go p e below s _ _ _ (T7.setTop (mkF m 21 #[rv a1, rv a2, iv nz] [(.int cm), (.ref a1)]))
  obtain ⟨v8, T8, L8, X8, hQ8, st8⟩ := own_callP (y := own_y34) X7 hx hZ hown (ow229 hw) (ow230 hw) (own_selSelf (ow232 hw) (ow231 hw) (ow230 hw) (by decide)) (ow231 hw) (ow208 hw) (ow233 hw) (rm_ecapG l Z a0 hw hO [] a1 cm vb kv (vs : List Value) h0 O0 fp1 fp2 fp4 hec) 0 0 0 (by show _ ≤ 0; omega) (by show _ ≤ 0; omega) e7 fp0 (g := (mkF m 21 #[rv a1, rv a2, iv nz] [(.int cm), (.ref a1)])) rfl (by rw [hml]; rfl) [(.int cm)] [] (lenOf own_pd_19 rfl) rfl rfl (hb hby d46_21)
  obtain ⟨rfl, Nc10, Kc9⟩ := hQ8
  refine own_go st8 ?_
  clear st8 X7 e7
  replace N0 := Fr.app N0 Nc10
  clear Nc10
  refine own_go (fun _ k => XS.aloadN X8.here hx rfl (hb hby d46_24) rfl rfl (XS.aloadN X8.here hx rfl (hb hby d46_25) rfl rfl k)) ?_
  obtain ⟨T11, X11, e11, st11⟩ := getF X8 hx hZ hown (host := "") (Or.inl (ow227 hw)) Via.refl Kc9 fp3 (g := (mkF m 26 #[rv a1, rv a2, iv nz] [(.ref a1), (.ref a1)])) rfl rfl (hb hby d46_26)
  refine own_go st11 ?_
  clear st11 X8 Kc9
  refine own_go (fun _ k => XS.aloadN X11.here hx rfl (hb hby d46_29) rfl rfl k) ?_
  obtain ⟨v12, T12, L12, X12, hQ12, st12⟩ := own_callP (y := own_y36) X11 hx hZ hown (ow234 hw) (ow235 hw) (own_selSelf (ow237 hw) (ow236 hw) (ow235 hw) (by decide)) (ow236 hw) (ow208 hw) (ow238 hw) (rm_psaG l Z a0 hw hO [] a1 cn a2 vb kv (vs : List Value) t kt nz (vl : List Value) h0 O0 fp0 fp1 fp2 fp3 fp4 (fp5.keep K0) (fp6.keep K0 (ninS ne1 (ninS ne2 nin0))) (fp7.keep K0 (ninS ne1 (ninS ne2 nin0))) (fp8.keep K0 (ninS ne3 (ninS ne_t_vb nin0))) big_vb ne_t_vb (Exa.neArv fp0 fp4 (ow199 hw)) hft) 0 0 0 (by show _ ≤ 0; omega) (by show _ ≤ 0; omega) e11 fp0 (g := (mkF m 30 #[rv a1, rv a2, iv nz] [(.ref a2), (.int cn), (.ref a1)])) rfl (by rw [hml]; rfl) [(.int cn), (.ref a2)] [] (lenOf own_pd_22 rfl) rfl rfl (hb hby d46_30)
  obtain ⟨w13, rfl, Nc16, Kc15, f14⟩ := hQ12
  refine own_go st12 ?_
  clear st12 X11 e11
  replace N0 := Fr.app N0 Nc16
  clear Nc16
  have ne17 : a1 ≠ vb := (Exa.neArv fp0 fp4 (ow199 hw))
  replace fp0 := fp0.keep Kc15
  replace fp1 := fp1.keep Kc15 (ninS ne17 nin0)
  replace fp2 := fp2.keep Kc15 (ninS ne17 nin0)
  replace fp3 := fp3.keep Kc15 (ninS ne17 nin0)
  clear fp4
  replace O0 := own_oldKeep O0 Kc15 (allS big_vb all0)
  replace K0 := K0.trans Kc15 (allS (Or.inl (List.mem_of_getElem? (i := 1) rfl)) all0)
  clear Kc15
  refine own_go (fun _ k => XS.aloadN X12.here hx rfl (hb hby d46_33) rfl rfl (XS.dup X12.here hx rfl (hb hby d46_34) rfl rfl k)) ?_
  show own_Go p e below s _ _ _ (T12.setTop (mkF m 35 #[rv a1, rv a2, iv nz] [(.ref a1), (.ref a1)]))
  obtain ⟨T18, X18, e18, st18⟩ := getF X12 hx hZ hown (host := "") (Or.inl (ow227 hw)) Via.refl (rfl : T12.heap = T12.heap) fp3 (g := (mkF m 35 #[rv a1, rv a2, iv nz] [(.ref a1), (.ref a1)])) rfl rfl (hb hby d46_35)
  refine own_go st18 ?_
  clear st18 X12
  refine own_go (fun _ k => XS.iloadN X18.here hx rfl (hb hby d46_38) rfl (XS.iadd X18.here hx rfl (hb hby d46_39) rfl k)) ?_
  show own_Go p e below s _ _ _ (T18.setTop (mkF m 40 #[rv a1, rv a2, iv nz] [(.int (cn + nz)), (.ref a1)]))
  rw [hcm]
  show own_Go p e below s _ _ _ (T18.setTop (mkF m 40 #[rv a1, rv a2, iv nz] [(.int cm), (.ref a1)]))
  obtain ⟨T19, h19, X19, e19, W19, st19⟩ := putF X18 hx hZ hown (host := "") (Or.inl (ow227 hw)) Via.refl e18 fp3 fp0 (Or.inl (ow228 hw)) (ow199 hw) (ty := .int) own_fd2 rfl rfl (g := (mkF m 40 #[rv a1, rv a2, iv nz] [(.int cm), (.ref a1)])) rfl rfl (hb hby d46_40)
  refine own_go st19 ?_
  clear st19 X18 e18
  replace N0 := Fr.snoc X19 N0 big_a1
  replace fp0 := fp0.wr W19
  replace fp1 := fp1.other W19 (.inr (own_sn2 hw).symm)
  replace fp2 := fp2.other W19 (.inr (own_sn3 hw).symm)
  replace fp3 := fp3.same W19
  replace f14 := f14.other W19 ne17.symm
  replace O0 := own_oldWr O0 W19 big_a1
  replace K0 := K0.wr W19 (Or.inl (List.mem_of_getElem? (i := 0) rfl))
  clear W19
  refine own_go (fun _ k => XS.aloadN X19.here hx rfl (hb hby d46_43) rfl rfl k) ?_
  show own_Go p e below s _ _ _ (T19.setTop (mkF m 44 #[rv a1, rv a2, iv nz] [(.ref a1)]))
  refine own_retA X19 hx hlk e19 hret rfl rfl (hb hby d46_44) (by show _ ≤ 0; omega) (by show _ ≤ 0; omega) ?_
  exact ⟨w13, rfl, N0, K0, fp0, fp1, fp2, fp3, f14⟩
theorem d45_0 : decode jdk_67_method_7_code 0 = .ok (.aload_n 0, 1) := by decide +kernel
theorem d45_1 : decode jdk_67_method_7_code 1 = .ok (.aload_n 1, 1) := by decide +kernel
theorem d45_2 : decode jdk_67_method_7_code 2 = .ok (.invokespecial 29, 3) := by decide +kernel
theorem d45_5 : decode jdk_67_method_7_code 5 = .ok (.pop, 1) := by decide +kernel
theorem d45_6 : decode jdk_67_method_7_code 6 = .ok (.aload_n 0, 1) := by decide +kernel
theorem d45_7 : decode jdk_67_method_7_code 7 = .ok (.areturn, 1) := by decide +kernel
def Q_sappG (Z : State) (zc : Int32) (wsf : Value) (a1 : Addr) (a2 : Addr) (vb : Addr) (kv : ClassId) (vs : List Value) (t : Addr) (kt : ClassId) (nz : Int32) (vl : List Value) (cn : Int32) (cm : Int32) (h0 : Heap) (v : Option Value) (h : Heap) (L : List Loc) : Prop := (∃ ls : List Value, v = some (.ref a1) ∧ Fr Z.heap.size L ∧ Keep h0 h [a1, vb] ∧ Exa Z h a1 "java/lang/StringBuilder" ∧ Fld Z h a1 "java/lang/AbstractStringBuilder" "value" "[B" (.ref vb) ∧ Fld Z h a1 "java/lang/AbstractStringBuilder" "coder" "B" (.int (0 : Int32)) ∧ Fld Z h a1 "java/lang/AbstractStringBuilder" "count" "I" (.int cm) ∧ Arv Z h vb kv .byte (16 : Int32) ls (.int (0 : Int32)))
theorem ef_sappG (m : MethodId) (x0 : Addr) (x1 : Addr) : entryFrame m #[(.ref x0), (.ref x1)] 2 = mkF m 0 #[rv x0, rv x1] [] := by first | (simp [entryFrame, mkF, argsToLocals, Value.category]; done) | rfl
set_option maxRecDepth 65536 in
set_option maxHeartbeats 40000000 in
theorem rm_sappG (l : Launch) (Z : State) (a0 : Array Value) (hw : own_W Z a0) {zc : Int32} {wsf : Value} (hO : own_Olds Z zc wsf) (ws : List Jvm.Cond) (a1 : Addr) (a2 : Addr) (vb : Addr) (kv : ClassId) (vs : List Value) (t : Addr) (kt : ClassId) (nz : Int32) (vl : List Value) (cn : Int32) (cm : Int32) (h0 : Heap) (O0 : Ext Z.heap h0) (fp0 : Exa Z h0 a1 "java/lang/StringBuilder") (fp1 : Fld Z h0 a1 "java/lang/AbstractStringBuilder" "value" "[B" (.ref vb)) (fp2 : Fld Z h0 a1 "java/lang/AbstractStringBuilder" "coder" "B" (.int (0 : Int32))) (fp3 : Fld Z h0 a1 "java/lang/AbstractStringBuilder" "count" "I" (.int cn)) (fp4 : Arv Z h0 vb kv .byte (16 : Int32) vs (.int (0 : Int32))) (fp5 : Exa Z h0 a2 "java/lang/String") (fp6 : Fld Z h0 a2 "java/lang/String" "value" "[B" (.ref t)) (fp7 : Fld Z h0 a2 "java/lang/String" "coder" "B" (.int (0 : Int32))) (fp8 : Arv Z h0 t kt .byte nz vl (.int (0 : Int32))) (big_a1 : Z.heap.size ≤ a1) (big_vb : Z.heap.size ≤ vb) (ne_t_vb : t ≠ vb) (hft : own_Ft cn nz) (hcm : (cn + nz) = cm) (hec : ¬ ((0 : Int32) < (cm - (16 : Int32)))) :
    own_MF l Z h0 own_y38 jdk_67_method_7_code 2 (some (.object "java/lang/StringBuilder")) ({ frames := 5, cells := 0, slots := 0, locals := 73 } : Room) #[(.ref a1), (.ref a2)] (Q_sappG Z zc wsf a1 a2 vb kv vs t kt nz vl cn cm h0) ws := by
  refine own_met (Q := (Q_sappG Z zc wsf a1 a2 vb kv vs t kt nz vl cn cm h0)) _ _ (plainFor_of_name own_pn_8) ?_
  intro p e s m below meth c T X0 hx hby hml hret hlk hZ hown hnm e0
  replace hown : s.vm.findClass "java/lang/StringBuilder" = some m.cls := hown
  replace hnm : meth.name = "append" := hnm
  have hml : c.maxLocals = 2 := hml
  obtain ⟨oCS, oCz, oSF, r_wsf⟩ := id hO
  have N0 := Fr.nil Z.heap.size
  have K0 := Keep.refl h0 [a1, vb]
  refine own_go (fun _ k => castTop (ef_sappG m a1 a2) k) ?_
  have ne1 : a2 ≠ a1 := (ne_exa fp5 fp0 (by decide))
  have ne2 : a2 ≠ vb := (Exa.neArv fp5 fp4 (ow6 hw))
  have ne3 : t ≠ a1 := (Ne.symm (Exa.neArv fp0 fp8 (ow199 hw)))
  show own_Go p e below s _ _ _ (T.setTop (mkF m 0 #[rv a1, rv a2] []))
  refine own_go (fun _ k => XS.aloadN X0.here hx rfl (hb hby d45_0) rfl rfl (XS.aloadN X0.here hx rfl (hb hby d45_1) rfl rfl k)) ?_
  obtain ⟨v4, T4, L4, X4, hQ4, st4⟩ := own_callK (y := own_y37) X0 hx hZ hown (ow221 hw) (own_same (ow232 hw) rfl (ow222 hw) (by decide)) (ow222 hw) (ow223 hw) (ow208 hw) (ow225 hw) (rm_aappG l Z a0 hw hO [] a1 a2 vb kv (vs : List Value) t kt nz (vl : List Value) cn cm h0 O0 fp0 fp1 fp2 fp3 fp4 (fp5.keep K0) (fp6.keep K0 (ninS ne1 (ninS ne2 nin0))) (fp7.keep K0 (ninS ne1 (ninS ne2 nin0))) (fp8.keep K0 (ninS ne3 (ninS ne_t_vb nin0))) big_a1 big_vb ne_t_vb hft hcm hec) 0 0 0 (by decide) (by show _ ≤ 0; omega) (by show _ ≤ 0; omega) e0 (g := (mkF m 2 #[rv a1, rv a2] [(.ref a2), (.ref a1)])) rfl (by rw [hml]; rfl) a1 fp0 [(.ref a2)] [] (lenOf own_pd_23 rfl) rfl rfl (hb hby d45_2)
  obtain ⟨w5, rfl, Nc12, Kc11, f6, f7, f8, f9, f10⟩ := hQ4
  refine own_go st4 ?_
  clear st4 X0 e0
  replace N0 := Fr.app N0 Nc12
  clear Nc12
  replace fp0 := fp0.keep Kc11
  clear fp1
  clear fp2
  clear fp3
  clear fp4
  replace O0 := own_oldKeep O0 Kc11 (allS big_a1 (allS big_vb all0))
  replace K0 := K0.trans Kc11 (allS (Or.inl (List.mem_of_getElem? (i := 0) rfl)) (allS (Or.inl (List.mem_of_getElem? (i := 1) rfl)) all0))
  clear Kc11
  refine own_go (fun _ k => XS.pop X4.here hx rfl (hb hby d45_5) rfl rfl (XS.aloadN X4.here hx rfl (hb hby d45_6) rfl rfl k)) ?_
  show own_Go p e below s _ _ _ (T4.setTop (mkF m 7 #[rv a1, rv a2] [(.ref a1)]))
  refine own_retA X4 hx hlk (rfl : T4.heap = T4.heap) hret rfl rfl (hb hby d45_7) (by show _ ≤ 0; omega) (by show _ ≤ 0; omega) ?_
  exact ⟨w5, rfl, N0, K0, f6, f7, f8, f9, f10⟩
theorem d54_0 : decode jdk_68_method_64_code 0 = .ok (.aload_n 0, 1) := by decide +kernel
theorem d54_1 : decode jdk_68_method_64_code 1 = .ok (.getfield 15, 3) := by decide +kernel
theorem d54_4 : decode jdk_68_method_64_code 4 = .ok (.areturn, 1) := by decide +kernel
def Q_sbval (Z : State) (zc : Int32) (wsf : Value) (a1 : Addr) (w : Addr) (h0 : Heap) (v : Option Value) (h : Heap) (L : List Loc) : Prop := (v = some (.ref w) ∧ Fr Z.heap.size L ∧ h = h0)
theorem ef_sbval (m : MethodId) (x0 : Addr) : entryFrame m #[(.ref x0)] 1 = mkF m 0 #[rv x0] [] := by first | (simp [entryFrame, mkF, argsToLocals, Value.category]; done) | rfl
set_option maxRecDepth 65536 in
set_option maxHeartbeats 40000000 in
theorem rm_sbval (l : Launch) (Z : State) (a0 : Array Value) (hw : own_W Z a0) {zc : Int32} {wsf : Value} (hO : own_Olds Z zc wsf) (ws : List Jvm.Cond) (a1 : Addr) (w : Addr) (h0 : Heap) (O0 : Ext Z.heap h0) (fp0 : Fld Z h0 a1 "java/lang/AbstractStringBuilder" "value" "[B" (.ref w)) :
    own_MF l Z h0 own_y39 jdk_68_method_64_code 1 (some (.array .byte)) ({ frames := 0, cells := 0, slots := 0, locals := 0 } : Room) #[(.ref a1)] (Q_sbval Z zc wsf a1 w h0) ws := by
  refine own_met (Q := (Q_sbval Z zc wsf a1 w h0)) _ _ (plainFor_of_name own_pn_7) ?_
  intro p e s m below meth c T X0 hx hby hml hret hlk hZ hown hnm e0
  replace hown : s.vm.findClass "java/lang/AbstractStringBuilder" = some m.cls := hown
  replace hnm : meth.name = "getValue" := hnm
  have hml : c.maxLocals = 1 := hml
  obtain ⟨oCS, oCz, oSF, r_wsf⟩ := id hO
  have N0 := Fr.nil Z.heap.size
  have K0 := Keep.refl h0 []
  refine own_go (fun _ k => castTop (ef_sbval m a1) k) ?_
  show own_Go p e below s _ _ _ (T.setTop (mkF m 0 #[rv a1] []))
  refine own_go (fun _ k => XS.aloadN X0.here hx rfl (hb hby d54_0) rfl rfl k) ?_
  obtain ⟨T1, X1, e1, st1⟩ := getF X0 hx hZ hown (host := "") (Or.inl (ow212 hw)) Via.refl e0 (fp0.keep K0 nin0) (g := (mkF m 1 #[rv a1] [(.ref a1)])) rfl rfl (hb hby d54_1)
  refine own_go st1 ?_
  clear st1 X0 e0
  show own_Go p e below s _ _ _ (T1.setTop (mkF m 4 #[rv a1] [(.ref w)]))
  refine own_retA X1 hx hlk e1 hret rfl rfl (hb hby d54_4) (by show _ ≤ 0; omega) (by show _ ≤ 0; omega) ?_
  exact ⟨rfl, N0, rfl⟩
theorem d56_0 : decode jdk_68_method_6_code 0 = .ok (.aload_n 0, 1) := by decide +kernel
theorem d56_1 : decode jdk_68_method_6_code 1 = .ok (.getfield 79, 3) := by decide +kernel
theorem d56_4 : decode jdk_68_method_6_code 4 = .ok (.ireturn, 1) := by decide +kernel
def Q_asblen (Z : State) (zc : Int32) (wsf : Value) (a1 : Addr) (w : Int32) (h0 : Heap) (v : Option Value) (h : Heap) (L : List Loc) : Prop := (v = some (.int w) ∧ Fr Z.heap.size L ∧ h = h0)
theorem ef_asblen (m : MethodId) (x0 : Addr) : entryFrame m #[(.ref x0)] 1 = mkF m 0 #[rv x0] [] := by first | (simp [entryFrame, mkF, argsToLocals, Value.category]; done) | rfl
set_option maxRecDepth 65536 in
set_option maxHeartbeats 40000000 in
theorem rm_asblen (l : Launch) (Z : State) (a0 : Array Value) (hw : own_W Z a0) {zc : Int32} {wsf : Value} (hO : own_Olds Z zc wsf) (ws : List Jvm.Cond) (a1 : Addr) (w : Int32) (h0 : Heap) (O0 : Ext Z.heap h0) (fp0 : Exa Z h0 a1 "java/lang/StringBuilder") (fp1 : Fld Z h0 a1 "java/lang/AbstractStringBuilder" "count" "I" (.int w)) :
    own_MF l Z h0 own_y40 jdk_68_method_6_code 1 (some .int) ({ frames := 0, cells := 0, slots := 0, locals := 0 } : Room) #[(.ref a1)] (Q_asblen Z zc wsf a1 w h0) ws := by
  refine own_met (Q := (Q_asblen Z zc wsf a1 w h0)) _ _ (plainFor_of_name own_pn_7) ?_
  intro p e s m below meth c T X0 hx hby hml hret hlk hZ hown hnm e0
  replace hown : s.vm.findClass "java/lang/AbstractStringBuilder" = some m.cls := hown
  replace hnm : meth.name = "length" := hnm
  have hml : c.maxLocals = 1 := hml
  obtain ⟨oCS, oCz, oSF, r_wsf⟩ := id hO
  have N0 := Fr.nil Z.heap.size
  have K0 := Keep.refl h0 []
  refine own_go (fun _ k => castTop (ef_asblen m a1) k) ?_
  show own_Go p e below s _ _ _ (T.setTop (mkF m 0 #[rv a1] []))
  refine own_go (fun _ k => XS.aloadN X0.here hx rfl (hb hby d56_0) rfl rfl k) ?_
  obtain ⟨T1, X1, e1, st1⟩ := getF X0 hx hZ hown (host := "") (Or.inl (ow227 hw)) Via.refl e0 (fp1.keep K0 nin0) (g := (mkF m 1 #[rv a1] [(.ref a1)])) rfl rfl (hb hby d56_1)
  refine own_go st1 ?_
  clear st1 X0 e0
  show own_Go p e below s _ _ _ (T1.setTop (mkF m 4 #[rv a1] [(.int w)]))
  refine own_retI X1 hx hlk e1 hret (hb hby d56_4) (by show _ ≤ 0; omega) (by show _ ≤ 0; omega) ?_
  exact ⟨rfl, N0, rfl⟩
theorem d55_0 : decode jdk_67_method_93_code 0 = .ok (.aload_n 0, 1) := by decide +kernel
theorem d55_1 : decode jdk_67_method_93_code 1 = .ok (.invokespecial 343, 3) := by decide +kernel
theorem d55_4 : decode jdk_67_method_93_code 4 = .ok (.ireturn, 1) := by decide +kernel
def Q_sblen (Z : State) (zc : Int32) (wsf : Value) (a1 : Addr) (w : Int32) (h0 : Heap) (v : Option Value) (h : Heap) (L : List Loc) : Prop := (v = some (.int w) ∧ Fr Z.heap.size L ∧ h = h0)
theorem ef_sblen (m : MethodId) (x0 : Addr) : entryFrame m #[(.ref x0)] 1 = mkF m 0 #[rv x0] [] := by first | (simp [entryFrame, mkF, argsToLocals, Value.category]; done) | rfl
set_option maxRecDepth 65536 in
set_option maxHeartbeats 40000000 in
theorem rm_sblen (l : Launch) (Z : State) (a0 : Array Value) (hw : own_W Z a0) {zc : Int32} {wsf : Value} (hO : own_Olds Z zc wsf) (ws : List Jvm.Cond) (a1 : Addr) (w : Int32) (h0 : Heap) (O0 : Ext Z.heap h0) (fp0 : Exa Z h0 a1 "java/lang/StringBuilder") (fp1 : Fld Z h0 a1 "java/lang/AbstractStringBuilder" "count" "I" (.int w)) :
    own_MF l Z h0 own_y41 jdk_67_method_93_code 1 (some .int) ({ frames := 1, cells := 0, slots := 0, locals := 12 } : Room) #[(.ref a1)] (Q_sblen Z zc wsf a1 w h0) ws := by
  refine own_met (Q := (Q_sblen Z zc wsf a1 w h0)) _ _ (plainFor_of_name own_pn_8) ?_
  intro p e s m below meth c T X0 hx hby hml hret hlk hZ hown hnm e0
  replace hown : s.vm.findClass "java/lang/StringBuilder" = some m.cls := hown
  replace hnm : meth.name = "length" := hnm
  have hml : c.maxLocals = 1 := hml
  obtain ⟨oCS, oCz, oSF, r_wsf⟩ := id hO
  have N0 := Fr.nil Z.heap.size
  have K0 := Keep.refl h0 []
  refine own_go (fun _ k => castTop (ef_sblen m a1) k) ?_
  show own_Go p e below s _ _ _ (T.setTop (mkF m 0 #[rv a1] []))
  refine own_go (fun _ k => XS.aloadN X0.here hx rfl (hb hby d55_0) rfl rfl k) ?_
  obtain ⟨v1, T1, L1, X1, hQ1, st1⟩ := own_callK (y := own_y40) X0 hx hZ hown (ow274 hw) (own_same (ow232 hw) rfl (ow270 hw) (by decide)) (ow270 hw) (ow223 hw) (ow208 hw) (ow275 hw) (rm_asblen l Z a0 hw hO [] a1 w h0 O0 (fp0.keep K0) (fp1.keep K0 nin0)) 0 0 0 (by decide) (by show _ ≤ 0; omega) (by show _ ≤ 0; omega) e0 (g := (mkF m 1 #[rv a1] [(.ref a1)])) rfl (by rw [hml]; rfl) a1 (fp0.keep K0) [] [] (lenOf own_pd_6 rfl) rfl rfl (hb hby d55_1)
  obtain ⟨rfl, Nc3, Kc2⟩ := hQ1
  refine own_go st1 ?_
  clear st1 X0 e0
  replace N0 := Fr.app N0 Nc3
  clear Nc3
  show own_Go p e below s _ _ _ (T1.setTop (mkF m 4 #[rv a1] [(.int w)]))
  refine own_retI X1 hx hlk Kc2 hret (hb hby d55_4) (by show _ ≤ 0; omega) (by show _ ≤ 0; omega) ?_
  exact ⟨rfl, N0, rfl⟩
theorem d57_0 : decode jdk_68_method_68_code 0 = .ok (.getstatic 18, 3) := by decide +kernel
theorem d57_3 : decode jdk_68_method_68_code 3 = .ok (.ifCond .eq 14, 3) := by decide +kernel
theorem d57_6 : decode jdk_68_method_68_code 6 = .ok (.aload_n 0, 1) := by decide +kernel
theorem d57_7 : decode jdk_68_method_68_code 7 = .ok (.getfield 22, 3) := by decide +kernel
theorem d57_10 : decode jdk_68_method_68_code 10 = .ok (.ifCond .ne 7, 3) := by decide +kernel
theorem d57_13 : decode jdk_68_method_68_code 13 = .ok (.iconst 1, 1) := by decide +kernel
theorem d57_14 : decode jdk_68_method_68_code 14 = .ok (.goto 4, 3) := by decide +kernel
theorem d57_18 : decode jdk_68_method_68_code 18 = .ok (.ireturn, 1) := by decide +kernel
def Q_sblat (Z : State) (zc : Int32) (wsf : Value) (a1 : Addr) (h0 : Heap) (v : Option Value) (h : Heap) (L : List Loc) : Prop := (v = some (.int (1 : Int32)) ∧ Fr Z.heap.size L ∧ h = h0)
theorem ef_sblat (m : MethodId) (x0 : Addr) : entryFrame m #[(.ref x0)] 1 = mkF m 0 #[rv x0] [] := by first | (simp [entryFrame, mkF, argsToLocals, Value.category]; done) | rfl
set_option maxRecDepth 65536 in
set_option maxHeartbeats 40000000 in
theorem rm_sblat (l : Launch) (Z : State) (a0 : Array Value) (hw : own_W Z a0) {zc : Int32} {wsf : Value} (hO : own_Olds Z zc wsf) (ws : List Jvm.Cond) (a1 : Addr) (h0 : Heap) (O0 : Ext Z.heap h0) (fp0 : Fld Z h0 a1 "java/lang/AbstractStringBuilder" "coder" "B" (.int (0 : Int32))) :
    own_MF l Z h0 own_y42 jdk_68_method_68_code 1 (some .boolean) ({ frames := 0, cells := 0, slots := 0, locals := 0 } : Room) #[(.ref a1)] (Q_sblat Z zc wsf a1 h0) ws := by
  refine own_met (Q := (Q_sblat Z zc wsf a1 h0)) _ _ (plainFor_of_name own_pn_7) ?_
  intro p e s m below meth c T X0 hx hby hml hret hlk hZ hown hnm e0
  replace hown : s.vm.findClass "java/lang/AbstractStringBuilder" = some m.cls := hown
  replace hnm : meth.name = "isLatin1" := hnm
  have hml : c.maxLocals = 1 := hml
  obtain ⟨oCS, oCz, oSF, r_wsf⟩ := id hO
  have N0 := Fr.nil Z.heap.size
  have K0 := Keep.refl h0 []
  refine own_go (fun _ k => castTop (ef_sblat m a1) k) ?_
  show own_Go p e below s _ _ _ (T.setTop (mkF m 0 #[rv a1] []))
  obtain ⟨T1, X1, e1, st1⟩ := getS2 X0 hx hZ hown (host := "") (Or.inl (ow211 hw)) Via.refl e0 (oCS.ext O0) (g := (mkF m 0 #[rv a1] [])) rfl (hb hby d57_0)
  refine own_go st1 ?_
  clear st1 X0 e0
  refine own_go (fun _ k => XS.ifNo X1.here hx rfl (hb hby d57_3) rfl ((if0 _ _).trans (feq oCz).1) (XS.aloadN X1.here hx rfl (hb hby d57_6) rfl rfl k)) ?_
  obtain ⟨T2, X2, e2, st2⟩ := getF X1 hx hZ hown (host := "") (Or.inl (ow214 hw)) Via.refl e1 (fp0.keep K0 nin0) (g := (mkF m 7 #[rv a1] [(.ref a1)])) rfl rfl (hb hby d57_7)
  refine own_go st2 ?_
  clear st2 X1 e1
  refine own_go (fun _ k => XS.ifNo X2.here hx rfl (hb hby d57_10) rfl ((if0 _ _).trans (teq (by decide : (0 : Int32) = (0 : Int32))).2) (XS.iconst X2.here hx rfl (hb hby d57_13) (XS.goto X2.here hx rfl (pc0 := 14) (pc' := 18) rfl (hb hby d57_14) (by decide) (by decide) k))) ?_
  show own_Go p e below s _ _ _ (T2.setTop (mkF m 18 #[rv a1] [(.int (1 : Int32))]))
  refine own_retN X2 hx hlk e2 (t := .boolean) hret (by simp) (hb hby d57_18) (by show _ ≤ 0; omega) (by show _ ≤ 0; omega) ?_
  exact ⟨rfl, N0, rfl⟩
theorem d53_0 : decode jdk_42_method_150_code 0 = .ok (.aload_n 0, 1) := by decide +kernel
theorem d53_1 : decode jdk_42_method_150_code 1 = .ok (.invokespecial 1, 3) := by decide +kernel
theorem d53_4 : decode jdk_42_method_150_code 4 = .ok (.aload_n 1, 1) := by decide +kernel
theorem d53_5 : decode jdk_42_method_150_code 5 = .ok (.invokevirtual 552, 3) := by decide +kernel
theorem d53_8 : decode jdk_42_method_150_code 8 = .ok (.astore_n 3, 1) := by decide +kernel
theorem d53_9 : decode jdk_42_method_150_code 9 = .ok (.aload_n 1, 1) := by decide +kernel
theorem d53_10 : decode jdk_42_method_150_code 10 = .ok (.invokevirtual 549, 3) := by decide +kernel
theorem d53_13 : decode jdk_42_method_150_code 13 = .ok (.istore 4, 2) := by decide +kernel
theorem d53_15 : decode jdk_42_method_150_code 15 = .ok (.aload_n 1, 1) := by decide +kernel
theorem d53_16 : decode jdk_42_method_150_code 16 = .ok (.invokevirtual 1047, 3) := by decide +kernel
theorem d53_19 : decode jdk_42_method_150_code 19 = .ok (.ifCond .eq 22, 3) := by decide +kernel
theorem d53_22 : decode jdk_42_method_150_code 22 = .ok (.aload_n 0, 1) := by decide +kernel
theorem d53_23 : decode jdk_42_method_150_code 23 = .ok (.iconst 0, 1) := by decide +kernel
theorem d53_24 : decode jdk_42_method_150_code 24 = .ok (.putfield 15, 3) := by decide +kernel
theorem d53_27 : decode jdk_42_method_150_code 27 = .ok (.aload_n 0, 1) := by decide +kernel
theorem d53_28 : decode jdk_42_method_150_code 28 = .ok (.aload_n 3, 1) := by decide +kernel
theorem d53_29 : decode jdk_42_method_150_code 29 = .ok (.iconst 0, 1) := by decide +kernel
theorem d53_30 : decode jdk_42_method_150_code 30 = .ok (.iload 4, 2) := by decide +kernel
theorem d53_32 : decode jdk_42_method_150_code 32 = .ok (.invokestatic 54, 3) := by decide +kernel
theorem d53_35 : decode jdk_42_method_150_code 35 = .ok (.putfield 9, 3) := by decide +kernel
theorem d53_38 : decode jdk_42_method_150_code 38 = .ok (.goto 59, 3) := by decide +kernel
theorem d53_97 : decode jdk_42_method_150_code 97 = .ok (.return_, 1) := by decide +kernel
def Q_stAG (Z : State) (zc : Int32) (wsf : Value) (a1 : Addr) (a2 : Addr) (vb : Addr) (kv : ClassId) (vs : List Value) (cm : Int32) (h0 : Heap) (v : Option Value) (h : Heap) (L : List Loc) : Prop := (v = none ∧ Fr Z.heap.size L ∧ Keep h0 h [a1] ∧ Exa Z h a1 "java/lang/String")
theorem ef_stAG (m : MethodId) (x0 : Addr) (x1 : Addr) : entryFrame m #[(.ref x0), (.ref x1), .null] 5 = mkF m 0 #[rv x0, rv x1, .val .null, .unset, .unset] [] := by first | (simp [entryFrame, mkF, argsToLocals, Value.category]; done) | rfl
set_option maxRecDepth 65536 in
set_option maxHeartbeats 40000000 in
theorem rm_stAG (l : Launch) (Z : State) (a0 : Array Value) (hw : own_W Z a0) {zc : Int32} {wsf : Value} (hO : own_Olds Z zc wsf) (ws : List Jvm.Cond) (a1 : Addr) (a2 : Addr) (vb : Addr) (kv : ClassId) (vs : List Value) (cm : Int32) (h0 : Heap) (O0 : Ext Z.heap h0) (fp0 : Exa Z h0 a1 "java/lang/String") (fp1 : Fld Z h0 a1 "java/lang/String" "value" "[B" .null) (fp2 : Fld Z h0 a1 "java/lang/String" "coder" "B" (.int (0 : Int32))) (fp3 : Exa Z h0 a2 "java/lang/StringBuilder") (fp4 : Fld Z h0 a2 "java/lang/AbstractStringBuilder" "value" "[B" (.ref vb)) (fp5 : Fld Z h0 a2 "java/lang/AbstractStringBuilder" "coder" "B" (.int (0 : Int32))) (fp6 : Fld Z h0 a2 "java/lang/AbstractStringBuilder" "count" "I" (.int cm)) (fp7 : Arv Z h0 vb kv .byte (16 : Int32) vs (.int (0 : Int32))) (big_a1 : Z.heap.size ≤ a1) (hrg : own_Rg (0 : Int32) cm (16 : Int32)) (hcf : ¬ ((0 : Int32) = (0 : Int32) ∧ cm = (16 : Int32))) :
    own_MF l Z h0 own_y43 jdk_42_method_150_code 5 none ({ frames := 4, cells := 1, slots := 16, locals := 61 } : Room) #[(.ref a1), (.ref a2), .null] (Q_stAG Z zc wsf a1 a2 vb kv vs cm h0) ws := by
  refine own_met (Q := (Q_stAG Z zc wsf a1 a2 vb kv vs cm h0)) _ _ (plainFor_of_name own_pn_0) ?_
  intro p e s m below meth c T X0 hx hby hml hret hlk hZ hown hnm e0
  replace hown : s.vm.findClass "java/lang/String" = some m.cls := hown
  replace hnm : meth.name = "<init>" := hnm
  have hml : c.maxLocals = 5 := hml
  obtain ⟨oCS, oCz, oSF, r_wsf⟩ := id hO
  have N0 := Fr.nil Z.heap.size
  have K0 := Keep.refl h0 [a1]
  refine own_go (fun _ k => castTop (ef_stAG m a1 a2) k) ?_
  have ne1 : a2 ≠ a1 := (ne_exa fp3 fp0 (by decide))
  have ne2 : vb ≠ a1 := (Ne.symm (Exa.neArv fp0 fp7 (ow6 hw)))
  show own_Go p e below s _ _ _ (T.setTop (mkF m 0 #[rv a1, rv a2, .val .null, .unset, .unset] []))
  refine own_go (fun _ k => XS.aloadN X0.here hx rfl (hb hby d53_0) rfl rfl k) ?_
  obtain ⟨T3, X3, e3, st3⟩ := initO X0 hx hZ hown (ow16 hw) (ow17 hw) (ow18 hw) e0 (g := (mkF m 1 #[rv a1, rv a2, .val .null, .unset, .unset] [(.ref a1)])) rfl (by rw [hml]; rfl) rfl (hb hby d53_1) (by decide) (W := 0) (by show 2 * 0 + _ ≤ _; exact Nat.le_of_eq rfl) (by decide)
  refine own_go st3 ?_
  clear st3 X0 e0
  refine own_go (fun _ k => XS.aloadN X3.here hx rfl (hb hby d53_4) rfl rfl k) ?_
  obtain ⟨v4, T4, L4, X4, hQ4, st4⟩ := own_callV (y := own_y39) (z := own_y39) X3 hx hZ hown (ow263 hw) (ow264 hw) (notFace_of_selects (args := #[]) (mvT hZ (ow266 hw))) (ow266 hw) (ow265 hw) (ow208 hw) (ow267 hw) (rm_sbval l Z a0 hw hO [] a2 vb h0 O0 (fp4.keep K0 (ninS ne1 nin0))) 0 0 0 (by show _ ≤ 1; omega) (by show _ ≤ 16; omega) e3 (fp3.keep K0) (g := (mkF m 5 #[rv a1, rv a2, .val .null, .unset, .unset] [(.ref a2)])) rfl (by rw [hml]; rfl) [] [] (lenOf own_pd_24 rfl) rfl rfl (hb hby d53_5)
  obtain ⟨rfl, Nc6, Kc5⟩ := hQ4
  refine own_go st4 ?_
  clear st4 X3 e3
  replace N0 := Fr.app N0 Nc6
  clear Nc6
  refine own_go (fun _ k => XS.astoreN X4.here hx rfl (hb hby d53_8) rfl rfl (l' := #[rv a1, rv a2, .val .null, rv vb, .unset]) rfl (XS.aloadN X4.here hx rfl (hb hby d53_9) rfl rfl k)) ?_
  obtain ⟨v7, T7, L7, X7, hQ7, st7⟩ := own_callV (y := own_y40) (z := own_y41) X4 hx hZ hown (ow268 hw) (ow269 hw) (own_nfOf (ar := #[]) (mvT hZ (ow232 hw)) rfl) (ow271 hw) (ow272 hw) (ow200 hw) (ow273 hw) (rm_sblen l Z a0 hw hO [] a2 cm h0 O0 (fp3.keep K0) (fp6.keep K0 (ninS ne1 nin0))) 0 0 0 (by show _ ≤ 1; omega) (by show _ ≤ 16; omega) Kc5 (fp3.keep K0) (g := (mkF m 10 #[rv a1, rv a2, .val .null, rv vb, .unset] [(.ref a2)])) rfl (by rw [hml]; rfl) [] [] (lenOf own_pd_6 rfl) rfl rfl (hb hby d53_10)
  obtain ⟨rfl, Nc9, Kc8⟩ := hQ7
  refine own_go st7 ?_
  clear st7 X4 Kc5
  replace N0 := Fr.app N0 Nc9
  clear Nc9
  refine own_go (fun _ k => XS.istore X7.here hx rfl (hb hby d53_13) rfl (l' := #[rv a1, rv a2, .val .null, rv vb, iv cm]) rfl k) ?_
  show own_Go p e below s _ _ _ (T7.setTop (mkF m 15 #[rv a1, rv a2, .val .null, rv vb, iv cm] []))
  refine own_go (fun _ k => XS.aloadN X7.here hx rfl (hb hby d53_15) rfl rfl k) ?_
  obtain ⟨v10, T10, L10, X10, hQ10, st10⟩ := own_callV (y := own_y42) (z := own_y42) X7 hx hZ hown (ow276 hw) (ow277 hw) (notFace_of_selects (args := #[]) (mvT hZ (ow279 hw))) (ow279 hw) (ow278 hw) (ow208 hw) (ow280 hw) (rm_sblat l Z a0 hw hO [] a2 h0 O0 (fp5.keep K0 (ninS ne1 nin0))) 0 0 0 (by show _ ≤ 1; omega) (by show _ ≤ 16; omega) Kc8 (fp3.keep K0) (g := (mkF m 16 #[rv a1, rv a2, .val .null, rv vb, iv cm] [(.ref a2)])) rfl (by rw [hml]; rfl) [] [] (lenOf own_pd_4 rfl) rfl rfl (hb hby d53_16)
  obtain ⟨rfl, Nc12, Kc11⟩ := hQ10
  refine own_go st10 ?_
  clear st10 X7 Kc8
  replace N0 := Fr.app N0 Nc12
  clear Nc12
  refine own_go (fun _ k => XS.ifNo X10.here hx rfl (hb hby d53_19) rfl ((if0 _ _).trans (feq (by decide : ¬ ((1 : Int32) = (0 : Int32)))).1) (XS.aloadN X10.here hx rfl (hb hby d53_22) rfl rfl (XS.iconst X10.here hx rfl (hb hby d53_23) k))) ?_
  obtain ⟨T13, h13, X13, e13, W13, st13⟩ := putFN X10 hx hZ hown (ow31 hw) Via.refl Kc11 fp2 fp0 (Or.inr ⟨(ow32 hw), rfl, hnm⟩) (ow6 hw) (ty := .byte) (v' := (.int (0 : Int32))) own_fd1 rfl (by decide) (g := (mkF m 24 #[rv a1, rv a2, .val .null, rv vb, iv cm] [(.int (0 : Int32)), (.ref a1)])) rfl rfl (hb hby d53_24)
  refine own_go st13 ?_
  clear st13 X10 Kc11
  replace N0 := Fr.snoc X13 N0 big_a1
  replace fp0 := fp0.wr W13
  replace fp1 := fp1.other W13 (.inr (own_sn0 hw).symm)
  replace fp2 := fp2.same W13
  replace O0 := own_oldWr O0 W13 big_a1
  replace K0 := K0.wr W13 (Or.inl (List.mem_of_getElem? (i := 0) rfl))
  clear W13
  refine own_go (fun _ k => XS.aloadN X13.here hx rfl (hb hby d53_27) rfl rfl (XS.aloadN X13.here hx rfl (hb hby d53_28) rfl rfl k)) ?_
  show own_Go p e below s _ _ _ (T13.setTop (mkF m 29 #[rv a1, rv a2, .val .null, rv vb, iv cm] [(.ref vb), (.ref a1)]))
  refine own_go (fun _ k => XS.iconst X13.here hx rfl (hb hby d53_29) (XS.iload X13.here hx rfl (hb hby d53_30) rfl k)) ?_
  obtain ⟨v14, T14, L14, X14, hQ14, st14⟩ := own_callS (y := own_y25) X13 hx hZ hown (ow281 hw) (ow171 hw) (ow172 hw) (ow173 hw) (rm_crG l Z a0 hw hO [] vb (0 : Int32) cm kv (16 : Int32) (vs : List Value) h13 O0 (fp7.keep K0 (ninS ne2 nin0)) hrg hcf) 1 1 16 (by show _ ≤ 1; omega) (by show _ ≤ 16; omega) e13 (g := (mkF m 32 #[rv a1, rv a2, .val .null, rv vb, iv cm] [(.int cm), (.int (0 : Int32)), (.ref vb), (.ref a1)])) rfl (by rw [hml]; rfl) [(.ref vb), (.int (0 : Int32)), (.int cm)] [(.ref a1)] (lenOf own_pd_14 rfl) rfl rfl (hb hby d53_32)
  obtain ⟨w15, w16, w17, rfl, Nc21, Kc20, hb18, f19⟩ := hQ14
  refine own_go st14 ?_
  clear st14 X13 e13
  replace N0 := Fr.app N0 Nc21
  clear Nc21
  have ne22 : a1 ≠ w15 := Nat.ne_of_lt (Nat.lt_of_lt_of_le fp0.lt hb18)
  have big23 : Z.heap.size ≤ w15 := Nat.le_trans O0.1 hb18
  have sz24 : h0.size ≤ w15 := Nat.le_trans K0.1 hb18
  replace fp0 := fp0.keep Kc20
  replace fp1 := fp1.keep Kc20 nin0
  replace fp2 := fp2.keep Kc20 nin0
  replace O0 := own_oldKeep O0 Kc20 all0
  replace K0 := K0.trans Kc20 all0
  clear Kc20
  obtain ⟨T25, h25, X25, e25, W25, st25⟩ := putF X14 hx hZ hown (host := "") (Or.inl (ow33 hw)) Via.refl (rfl : T14.heap = T14.heap) fp1 fp0 (Or.inr ⟨(ow34 hw), rfl, hnm⟩) (ow6 hw) (ty := (.array .byte)) own_fd0 rfl rfl (g := (mkF m 35 #[rv a1, rv a2, .val .null, rv vb, iv cm] [(.ref w15), (.ref a1)])) rfl rfl (hb hby d53_35)
  refine own_go st25 ?_
  clear st25 X14
  replace N0 := Fr.snoc X25 N0 big_a1
  replace fp0 := fp0.wr W25
  replace fp1 := fp1.same W25
  replace fp2 := fp2.other W25 (.inr (own_sn0 hw))
  replace f19 := f19.other W25 ne22.symm
  replace O0 := own_oldWr O0 W25 big_a1
  replace K0 := K0.wr W25 (Or.inl (List.mem_of_getElem? (i := 0) rfl))
  clear W25
  refine own_go (fun _ k => XS.goto X25.here hx rfl (pc0 := 38) (pc' := 97) rfl (hb hby d53_38) (by decide) (by decide) k) ?_
  show own_Go p e below s _ _ _ (T25.setTop (mkF m 97 #[rv a1, rv a2, .val .null, rv vb, iv cm] []))
  refine own_retV X25 hx hlk e25 hret (hb hby d53_97) (by show _ ≤ 1; omega) (by show _ ≤ 16; omega) ?_
  exact ⟨rfl, N0, K0, fp0⟩
theorem d52_0 : decode jdk_42_method_53_code 0 = .ok (.aload_n 0, 1) := by decide +kernel
theorem d52_1 : decode jdk_42_method_53_code 1 = .ok (.aload_n 1, 1) := by decide +kernel
theorem d52_2 : decode jdk_42_method_53_code 2 = .ok (.aconst_null, 1) := by decide +kernel
theorem d52_3 : decode jdk_42_method_53_code 3 = .ok (.invokespecial 489, 3) := by decide +kernel
theorem d52_6 : decode jdk_42_method_53_code 6 = .ok (.return_, 1) := by decide +kernel
def Q_stSG (Z : State) (zc : Int32) (wsf : Value) (a1 : Addr) (a2 : Addr) (vb : Addr) (kv : ClassId) (vs : List Value) (cm : Int32) (h0 : Heap) (v : Option Value) (h : Heap) (L : List Loc) : Prop := (v = none ∧ Fr Z.heap.size L ∧ Keep h0 h [a1] ∧ Exa Z h a1 "java/lang/String")
theorem ef_stSG (m : MethodId) (x0 : Addr) (x1 : Addr) : entryFrame m #[(.ref x0), (.ref x1)] 2 = mkF m 0 #[rv x0, rv x1] [] := by first | (simp [entryFrame, mkF, argsToLocals, Value.category]; done) | rfl
set_option maxRecDepth 65536 in
set_option maxHeartbeats 40000000 in
theorem rm_stSG (l : Launch) (Z : State) (a0 : Array Value) (hw : own_W Z a0) {zc : Int32} {wsf : Value} (hO : own_Olds Z zc wsf) (ws : List Jvm.Cond) (a1 : Addr) (a2 : Addr) (vb : Addr) (kv : ClassId) (vs : List Value) (cm : Int32) (h0 : Heap) (O0 : Ext Z.heap h0) (fp0 : Exa Z h0 a1 "java/lang/String") (fp1 : Fld Z h0 a1 "java/lang/String" "value" "[B" .null) (fp2 : Fld Z h0 a1 "java/lang/String" "coder" "B" (.int (0 : Int32))) (fp3 : Exa Z h0 a2 "java/lang/StringBuilder") (fp4 : Fld Z h0 a2 "java/lang/AbstractStringBuilder" "value" "[B" (.ref vb)) (fp5 : Fld Z h0 a2 "java/lang/AbstractStringBuilder" "coder" "B" (.int (0 : Int32))) (fp6 : Fld Z h0 a2 "java/lang/AbstractStringBuilder" "count" "I" (.int cm)) (fp7 : Arv Z h0 vb kv .byte (16 : Int32) vs (.int (0 : Int32))) (big_a1 : Z.heap.size ≤ a1) (hrg : own_Rg (0 : Int32) cm (16 : Int32)) (hcf : ¬ ((0 : Int32) = (0 : Int32) ∧ cm = (16 : Int32))) :
    own_MF l Z h0 own_y44 jdk_42_method_53_code 2 none ({ frames := 5, cells := 1, slots := 16, locals := 77 } : Room) #[(.ref a1), (.ref a2)] (Q_stSG Z zc wsf a1 a2 vb kv vs cm h0) ws := by
  refine own_met (Q := (Q_stSG Z zc wsf a1 a2 vb kv vs cm h0)) _ _ (plainFor_of_name own_pn_0) ?_
  intro p e s m below meth c T X0 hx hby hml hret hlk hZ hown hnm e0
  replace hown : s.vm.findClass "java/lang/String" = some m.cls := hown
  replace hnm : meth.name = "<init>" := hnm
  have hml : c.maxLocals = 2 := hml
  obtain ⟨oCS, oCz, oSF, r_wsf⟩ := id hO
  have N0 := Fr.nil Z.heap.size
  have K0 := Keep.refl h0 [a1]
  refine own_go (fun _ k => castTop (ef_stSG m a1 a2) k) ?_
  have ne1 : a2 ≠ a1 := (ne_exa fp3 fp0 (by decide))
  have ne2 : vb ≠ a1 := (Ne.symm (Exa.neArv fp0 fp7 (ow6 hw)))
  show own_Go p e below s _ _ _ (T.setTop (mkF m 0 #[rv a1, rv a2] []))
  refine own_go (fun _ k => XS.aloadN X0.here hx rfl (hb hby d52_0) rfl rfl (XS.aloadN X0.here hx rfl (hb hby d52_1) rfl rfl (XS.aconstNull X0.here hx rfl (hb hby d52_2) k))) ?_
  obtain ⟨v3, T3, L3, X3, hQ3, st3⟩ := own_callI (y := own_y43) X0 hx hZ hown (ow260 hw) (ow261 hw) (ow7 hw) (ow262 hw) (rm_stAG l Z a0 hw hO [] a1 a2 vb kv (vs : List Value) cm h0 O0 fp0 fp1 fp2 (fp3.keep K0) (fp4.keep K0 (ninS ne1 nin0)) (fp5.keep K0 (ninS ne1 nin0)) (fp6.keep K0 (ninS ne1 nin0)) (fp7.keep K0 (ninS ne2 nin0)) big_a1 hrg hcf) 0 1 16 rfl (by show _ ≤ 1; omega) (by show _ ≤ 16; omega) e0 (g := (mkF m 3 #[rv a1, rv a2] [.null, (.ref a2), (.ref a1)])) rfl (by rw [hml]; rfl) a1 [(.ref a2), .null] [] (lenOf own_pd_25 rfl) rfl rfl (hb hby d52_3)
  obtain ⟨rfl, Nc6, Kc5, f4⟩ := hQ3
  refine own_go st3 ?_
  clear st3 X0 e0
  replace N0 := Fr.app N0 Nc6
  clear Nc6
  replace fp0 := fp0.keep Kc5
  clear fp1
  clear fp2
  replace O0 := own_oldKeep O0 Kc5 (allS big_a1 all0)
  replace K0 := K0.trans Kc5 (allS (Or.inl (List.mem_of_getElem? (i := 0) rfl)) all0)
  clear Kc5
  show own_Go p e below s _ _ _ (T3.setTop (mkF m 6 #[rv a1, rv a2] []))
  refine own_retV X3 hx hlk (rfl : T3.heap = T3.heap) hret (hb hby d52_6) (by show _ ≤ 1; omega) (by show _ ≤ 16; omega) ?_
  exact ⟨rfl, N0, K0, f4⟩
theorem d51_0 : decode jdk_67_method_42_code 0 = .ok (.new 18, 3) := by decide +kernel
theorem d51_3 : decode jdk_67_method_42_code 3 = .ok (.dup, 1) := by decide +kernel
theorem d51_4 : decode jdk_67_method_42_code 4 = .ok (.aload_n 0, 1) := by decide +kernel
theorem d51_5 : decode jdk_67_method_42_code 5 = .ok (.invokespecial 137, 3) := by decide +kernel
theorem d51_8 : decode jdk_67_method_42_code 8 = .ok (.areturn, 1) := by decide +kernel
def Q_sbtsG (Z : State) (zc : Int32) (wsf : Value) (a1 : Addr) (vb : Addr) (kv : ClassId) (vs : List Value) (cm : Int32) (h0 : Heap) (v : Option Value) (h : Heap) (L : List Loc) : Prop := (∃ b : Addr, v = some (.ref b) ∧ Fr Z.heap.size L ∧ Keep h0 h [] ∧ h0.size ≤ b ∧ Exa Z h b "java/lang/String")
theorem ef_sbtsG (m : MethodId) (x0 : Addr) : entryFrame m #[(.ref x0)] 1 = mkF m 0 #[rv x0] [] := by first | (simp [entryFrame, mkF, argsToLocals, Value.category]; done) | rfl
set_option maxRecDepth 65536 in
set_option maxHeartbeats 40000000 in
theorem rm_sbtsG (l : Launch) (Z : State) (a0 : Array Value) (hw : own_W Z a0) {zc : Int32} {wsf : Value} (hO : own_Olds Z zc wsf) (ws : List Jvm.Cond) (a1 : Addr) (vb : Addr) (kv : ClassId) (vs : List Value) (cm : Int32) (h0 : Heap) (O0 : Ext Z.heap h0) (fp0 : Exa Z h0 a1 "java/lang/StringBuilder") (fp1 : Fld Z h0 a1 "java/lang/AbstractStringBuilder" "value" "[B" (.ref vb)) (fp2 : Fld Z h0 a1 "java/lang/AbstractStringBuilder" "coder" "B" (.int (0 : Int32))) (fp3 : Fld Z h0 a1 "java/lang/AbstractStringBuilder" "count" "I" (.int cm)) (fp4 : Arv Z h0 vb kv .byte (16 : Int32) vs (.int (0 : Int32))) (hrg : own_Rg (0 : Int32) cm (16 : Int32)) (hcf : ¬ ((0 : Int32) = (0 : Int32) ∧ cm = (16 : Int32))) :
    own_MF l Z h0 own_y45 jdk_67_method_42_code 1 (some (.object "java/lang/String")) ({ frames := 6, cells := 2, slots := 20, locals := 91 } : Room) #[(.ref a1)] (Q_sbtsG Z zc wsf a1 vb kv vs cm h0) ws := by
  refine own_met (Q := (Q_sbtsG Z zc wsf a1 vb kv vs cm h0)) _ _ (plainFor_of_name own_pn_8) ?_
  intro p e s m below meth c T X0 hx hby hml hret hlk hZ hown hnm e0
  replace hown : s.vm.findClass "java/lang/StringBuilder" = some m.cls := hown
  replace hnm : meth.name = "toString" := hnm
  have hml : c.maxLocals = 1 := hml
  obtain ⟨oCS, oCz, oSF, r_wsf⟩ := id hO
  have N0 := Fr.nil Z.heap.size
  have K0 := Keep.refl h0 []
  refine own_go (fun _ k => castTop (ef_sbtsG m a1) k) ?_
  show own_Go p e below s _ _ _ (T.setTop (mkF m 0 #[rv a1] []))
  obtain ⟨T1, h1, X1, e1, E1, A1, D1, -, st1⟩ := newO X0 hx hZ hown (ow256 hw) (ow6 hw) (ow7 hw) e0 (g := (mkF m 0 #[rv a1] [])) rfl (hb hby d51_0) (by show _ ≤ 2; omega) (by show _ ≤ 20; omega)
  obtain ⟨b1, g1⟩ : ∃ z, z = h0.size := ⟨_, rfl⟩
  rw [← g1] at A1 D1 st1
  refine own_go st1 ?_
  clear st1 X0 e0
  have ge1 := Nat.le_of_eq g1.symm
  have big2 : Z.heap.size ≤ b1 := Nat.le_trans O0.1 ge1
  have sz3 : h0.size ≤ b1 := Nat.le_trans K0.1 ge1
  replace O0 := own_oldExt O0 E1
  replace K0 := K0.ext E1
  clear E1
  have f4 : Fld Z h1 b1 "java/lang/String" "coder" "B" (.int (0 : Int32)) := D1 (Or.inr (ow32 hw)) (ty := .byte) own_fd1
  have f5 : Fld Z h1 b1 "java/lang/String" "value" "[B" .null := D1 (Or.inr (ow34 hw)) (ty := (.array .byte)) own_fd0
  refine own_go (fun _ k => XS.dup X1.here hx rfl (hb hby d51_3) rfl rfl (XS.aloadN X1.here hx rfl (hb hby d51_4) rfl rfl k)) ?_
  obtain ⟨v6, T6, L6, X6, hQ6, st6⟩ := own_callI (y := own_y44) X1 hx hZ hown (ow257 hw) (ow258 hw) (ow7 hw) (ow259 hw) (rm_stSG l Z a0 hw hO [] b1 a1 vb kv (vs : List Value) cm h1 O0 A1 f5 f4 (fp0.keep K0) (fp1.keep K0 nin0) (fp2.keep K0 nin0) (fp3.keep K0 nin0) (fp4.keep K0 nin0) big2 hrg hcf) 1 1 16 rfl (by show _ ≤ 2; omega) (by show _ ≤ 20; omega) e1 (g := (mkF m 5 #[rv a1] [(.ref a1), (.ref b1), (.ref b1)])) rfl (by rw [hml]; rfl) b1 [(.ref a1)] [(.ref b1)] (lenOf own_pd_26 rfl) rfl rfl (hb hby d51_5)
  obtain ⟨rfl, Nc9, Kc8, f7⟩ := hQ6
  refine own_go st6 ?_
  clear st6 X1 e1
  replace N0 := Fr.app N0 Nc9
  clear Nc9
  replace A1 := A1.keep Kc8
  clear f4
  clear f5
  replace O0 := own_oldKeep O0 Kc8 (allS big2 all0)
  replace K0 := K0.trans Kc8 (allS (Or.inr sz3) all0)
  clear Kc8
  show own_Go p e below s _ _ _ (T6.setTop (mkF m 8 #[rv a1] [(.ref b1)]))
  refine own_retA X6 hx hlk (rfl : T6.heap = T6.heap) hret rfl rfl (hb hby d51_8) (by show _ ≤ 2; omega) (by show _ ≤ 20; omega) ?_
  exact ⟨b1, rfl, N0, K0, sz3, f7⟩
theorem d11_0 : decode prog_69_method_5_code 0 = .ok (.aload_n 0, 1) := by decide +kernel
theorem d11_1 : decode prog_69_method_5_code 1 = .ok (.ldc 91, 2) := by decide +kernel
theorem d11_3 : decode prog_69_method_5_code 3 = .ok (.invokevirtual 93, 3) := by decide +kernel
theorem d11_6 : decode prog_69_method_5_code 6 = .ok (.istore_n 1, 1) := by decide +kernel
theorem d11_7 : decode prog_69_method_5_code 7 = .ok (.iload_n 1, 1) := by decide +kernel
theorem d11_8 : decode prog_69_method_5_code 8 = .ok (.ifCond .eq 7, 3) := by decide +kernel
theorem d11_11 : decode prog_69_method_5_code 11 = .ok (.iconst 1, 1) := by decide +kernel
theorem d11_12 : decode prog_69_method_5_code 12 = .ok (.goto 4, 3) := by decide +kernel
theorem d11_15 : decode prog_69_method_5_code 15 = .ok (.iconst 0, 1) := by decide +kernel
theorem d11_16 : decode prog_69_method_5_code 16 = .ok (.istore_n 2, 1) := by decide +kernel
theorem d11_17 : decode prog_69_method_5_code 17 = .ok (.aload_n 0, 1) := by decide +kernel
theorem d11_18 : decode prog_69_method_5_code 18 = .ok (.bipush 46, 2) := by decide +kernel
theorem d11_20 : decode prog_69_method_5_code 20 = .ok (.invokevirtual 99, 3) := by decide +kernel
theorem d11_23 : decode prog_69_method_5_code 23 = .ok (.istore_n 3, 1) := by decide +kernel
theorem d11_24 : decode prog_69_method_5_code 24 = .ok (.iload_n 3, 1) := by decide +kernel
theorem d11_25 : decode prog_69_method_5_code 25 = .ok (.ifCond .ge 10, 3) := by decide +kernel
theorem d11_28 : decode prog_69_method_5_code 28 = .ok (.aload_n 0, 1) := by decide +kernel
theorem d11_29 : decode prog_69_method_5_code 29 = .ok (.invokevirtual 103, 3) := by decide +kernel
theorem d11_32 : decode prog_69_method_5_code 32 = .ok (.goto 4, 3) := by decide +kernel
theorem d11_35 : decode prog_69_method_5_code 35 = .ok (.iload_n 3, 1) := by decide +kernel
theorem d11_36 : decode prog_69_method_5_code 36 = .ok (.istore 4, 2) := by decide +kernel
theorem d11_38 : decode prog_69_method_5_code 38 = .ok (.aload_n 0, 1) := by decide +kernel
theorem d11_39 : decode prog_69_method_5_code 39 = .ok (.iload_n 2, 1) := by decide +kernel
theorem d11_40 : decode prog_69_method_5_code 40 = .ok (.iload 4, 2) := by decide +kernel
theorem d11_42 : decode prog_69_method_5_code 42 = .ok (.invokestatic 106, 3) := by decide +kernel
theorem d11_45 : decode prog_69_method_5_code 45 = .ok (.ifCond .eq 21, 3) := by decide +kernel
theorem d11_48 : decode prog_69_method_5_code 48 = .ok (.iload_n 3, 1) := by decide +kernel
theorem d11_49 : decode prog_69_method_5_code 49 = .ok (.ifCond .lt 27, 3) := by decide +kernel
theorem d11_52 : decode prog_69_method_5_code 52 = .ok (.aload_n 0, 1) := by decide +kernel
theorem d11_53 : decode prog_69_method_5_code 53 = .ok (.iload_n 3, 1) := by decide +kernel
theorem d11_54 : decode prog_69_method_5_code 54 = .ok (.iconst 1, 1) := by decide +kernel
theorem d11_55 : decode prog_69_method_5_code 55 = .ok (.iadd, 1) := by decide +kernel
theorem d11_56 : decode prog_69_method_5_code 56 = .ok (.aload_n 0, 1) := by decide +kernel
theorem d11_57 : decode prog_69_method_5_code 57 = .ok (.invokevirtual 103, 3) := by decide +kernel
theorem d11_60 : decode prog_69_method_5_code 60 = .ok (.invokestatic 106, 3) := by decide +kernel
theorem d11_63 : decode prog_69_method_5_code 63 = .ok (.ifCond .ne 13, 3) := by decide +kernel
theorem d11_76 : decode prog_69_method_5_code 76 = .ok (.iload_n 2, 1) := by decide +kernel
theorem d11_77 : decode prog_69_method_5_code 77 = .ok (.istore 5, 2) := by decide +kernel
theorem d11_79 : decode prog_69_method_5_code 79 = .ok (.iload 5, 2) := by decide +kernel
theorem d11_81 : decode prog_69_method_5_code 81 = .ok (.iload 4, 2) := by decide +kernel
theorem d11_83 : decode prog_69_method_5_code 83 = .ok (.iconst 1, 1) := by decide +kernel
theorem d11_84 : decode prog_69_method_5_code 84 = .ok (.isub, 1) := by decide +kernel
theorem d11_85 : decode prog_69_method_5_code 85 = .ok (.if_icmp .ge 20, 3) := by decide +kernel
theorem d11_88 : decode prog_69_method_5_code 88 = .ok (.aload_n 0, 1) := by decide +kernel
theorem d11_89 : decode prog_69_method_5_code 89 = .ok (.iload 5, 2) := by decide +kernel
theorem d11_91 : decode prog_69_method_5_code 91 = .ok (.invokevirtual 115, 3) := by decide +kernel
theorem d11_94 : decode prog_69_method_5_code 94 = .ok (.bipush 48, 2) := by decide +kernel
theorem d11_96 : decode prog_69_method_5_code 96 = .ok (.if_icmp .ne 9, 3) := by decide +kernel
theorem d11_99 : decode prog_69_method_5_code 99 = .ok (.iinc 5 1, 3) := by decide +kernel
theorem d11_102 : decode prog_69_method_5_code 102 = .ok (.goto (-23), 3) := by decide +kernel
theorem d11_105 : decode prog_69_method_5_code 105 = .ok (.aload_n 0, 1) := by decide +kernel
theorem d11_106 : decode prog_69_method_5_code 106 = .ok (.invokevirtual 103, 3) := by decide +kernel
theorem d11_109 : decode prog_69_method_5_code 109 = .ok (.istore 6, 2) := by decide +kernel
theorem d11_111 : decode prog_69_method_5_code 111 = .ok (.iload 6, 2) := by decide +kernel
theorem d11_113 : decode prog_69_method_5_code 113 = .ok (.iload 4, 2) := by decide +kernel
theorem d11_115 : decode prog_69_method_5_code 115 = .ok (.if_icmp .le 30, 3) := by decide +kernel
theorem d11_118 : decode prog_69_method_5_code 118 = .ok (.aload_n 0, 1) := by decide +kernel
theorem d11_119 : decode prog_69_method_5_code 119 = .ok (.iload 6, 2) := by decide +kernel
theorem d11_121 : decode prog_69_method_5_code 121 = .ok (.iconst 1, 1) := by decide +kernel
theorem d11_122 : decode prog_69_method_5_code 122 = .ok (.isub, 1) := by decide +kernel
theorem d11_123 : decode prog_69_method_5_code 123 = .ok (.invokevirtual 115, 3) := by decide +kernel
theorem d11_126 : decode prog_69_method_5_code 126 = .ok (.bipush 48, 2) := by decide +kernel
theorem d11_128 : decode prog_69_method_5_code 128 = .ok (.if_icmp .eq 11, 3) := by decide +kernel
theorem d11_131 : decode prog_69_method_5_code 131 = .ok (.iload 6, 2) := by decide +kernel
theorem d11_133 : decode prog_69_method_5_code 133 = .ok (.iconst 1, 1) := by decide +kernel
theorem d11_134 : decode prog_69_method_5_code 134 = .ok (.isub, 1) := by decide +kernel
theorem d11_135 : decode prog_69_method_5_code 135 = .ok (.iload_n 3, 1) := by decide +kernel
theorem d11_136 : decode prog_69_method_5_code 136 = .ok (.if_icmp .ne 9, 3) := by decide +kernel
theorem d11_139 : decode prog_69_method_5_code 139 = .ok (.iinc 6 (-1), 3) := by decide +kernel
theorem d11_142 : decode prog_69_method_5_code 142 = .ok (.goto (-31), 3) := by decide +kernel
theorem d11_145 : decode prog_69_method_5_code 145 = .ok (.aload_n 0, 1) := by decide +kernel
theorem d11_146 : decode prog_69_method_5_code 146 = .ok (.iload 5, 2) := by decide +kernel
theorem d11_148 : decode prog_69_method_5_code 148 = .ok (.iload 6, 2) := by decide +kernel
theorem d11_150 : decode prog_69_method_5_code 150 = .ok (.invokevirtual 119, 3) := by decide +kernel
theorem d11_153 : decode prog_69_method_5_code 153 = .ok (.astore 7, 2) := by decide +kernel
theorem d11_155 : decode prog_69_method_5_code 155 = .ok (.iload_n 1, 1) := by decide +kernel
theorem d11_156 : decode prog_69_method_5_code 156 = .ok (.ifCond .eq 36, 3) := by decide +kernel
theorem d11_159 : decode prog_69_method_5_code 159 = .ok (.aload 7, 2) := by decide +kernel
theorem d11_161 : decode prog_69_method_5_code 161 = .ok (.ldc 34, 2) := by decide +kernel
theorem d11_163 : decode prog_69_method_5_code 163 = .ok (.invokevirtual 123, 3) := by decide +kernel
theorem d11_166 : decode prog_69_method_5_code 166 = .ok (.ifCond .ne 26, 3) := by decide +kernel
theorem d11_169 : decode prog_69_method_5_code 169 = .ok (.new 127, 3) := by decide +kernel
theorem d11_172 : decode prog_69_method_5_code 172 = .ok (.dup, 1) := by decide +kernel
theorem d11_173 : decode prog_69_method_5_code 173 = .ok (.invokespecial 129, 3) := by decide +kernel
theorem d11_176 : decode prog_69_method_5_code 176 = .ok (.ldc 91, 2) := by decide +kernel
theorem d11_178 : decode prog_69_method_5_code 178 = .ok (.invokevirtual 130, 3) := by decide +kernel
theorem d11_181 : decode prog_69_method_5_code 181 = .ok (.aload 7, 2) := by decide +kernel
theorem d11_183 : decode prog_69_method_5_code 183 = .ok (.invokevirtual 130, 3) := by decide +kernel
theorem d11_186 : decode prog_69_method_5_code 186 = .ok (.invokevirtual 134, 3) := by decide +kernel
theorem d11_189 : decode prog_69_method_5_code 189 = .ok (.goto 5, 3) := by decide +kernel
theorem d11_192 : decode prog_69_method_5_code 192 = .ok (.aload 7, 2) := by decide +kernel
theorem d11_194 : decode prog_69_method_5_code 194 = .ok (.areturn, 1) := by decide +kernel

def Q_plain (Z : State) (zc : Int32) (wsf : Value) (a1 : Addr) (h0 : Heap) (v : Option Value) (h : Heap) (L : List Loc) : Prop := (∃ b : Addr, v = some (.ref b) ∧ Fr Z.heap.size L ∧ Keep h0 h [] ∧ Exa Z h b "java/lang/String")
set_option maxRecDepth 65536 in
set_option maxHeartbeats 40000000 in
theorem sg_pd153 {l : Launch} {Z : State} {a0 : Array Value} (hw : own_W Z a0) {zc : Int32} {wsf : Value} (hO : own_Olds Z zc wsf) {p : Program} {e : Env} {s : State} {vm0 : Vm} {m : MethodId} {args : Array Value} {below : List Frame} {meth : Method} {c : Code} {T : State} {locs : List Loc} {cells slots : Nat} (a1 : Addr) (sb7 : Addr) (t : Addr) (kt : ClassId) (nz : Int32) (vl : List Value) (ya : Slot) (yb : Slot) (yc : Slot) (yd : Slot) (ye : Slot) (cm : Int32) (h0 hs1 : Heap)
    (X0 : Stand p l e ({ frames := 9, cells := 24, slots := 400, locals := 190 } : Room) (s.setVm vm0) m args below meth c T locs cells slots) (hS : s.Since vm0 hs1.size) (hL : own_L Z a0) (hJ : own_J Z vm0 hs1) (hx : p.tables.exec = Jvm.exec) (hby : c.code = prog_69_method_5_code) (hml : c.maxLocals = 8) (hret : meth.sig.returnType = some (.object "java/lang/String")) (hlk : meth.locks = false) (hZ : Z.Warmed39 (s.setVm vm0).vm) (hown : (s.setVm vm0).vm.findClass "com/example/ibex/ibex/model/Constant" = some m.cls) (hnm : meth.name = "plainDigits") (e0 : T.heap = hs1) (N0 : Fr Z.heap.size locs) (O0 : Ext Z.heap hs1) (K0 : Keep h0 hs1 []) (fp0 : Exa Z hs1 sb7 "java/lang/String") (fp1 : Fld Z hs1 sb7 "java/lang/String" "value" "[B" (.ref t)) (fp2 : Fld Z hs1 sb7 "java/lang/String" "coder" "B" (.int (0 : Int32))) (fp3 : Arv Z hs1 t kt .byte nz vl (.int (0 : Int32))) (hf1 : own_Ft (1 : Int32) nz) (hc1 : ((1 : Int32) + nz) = cm) (he1 : ¬ ((0 : Int32) < (cm - (16 : Int32)))) (hr1 : own_Rg (0 : Int32) cm (16 : Int32)) (hn1 : ¬ ((0 : Int32) = (0 : Int32) ∧ cm = (16 : Int32))) (hcells : cells ≤ 12) (hslots : slots ≤ 200) :
    own_GoW p e below s Z (Q_plain Z zc wsf a1 h0) ({ frames := 9, cells := 24, slots := 400, locals := 190 } : Room).cells ({ frames := 9, cells := 24, slots := 400, locals := 190 } : Room).slots (T.setTop (mkF m 153 #[rv a1, iv (1 : Int32), ya, yb, yc, yd, ye, .unset] [(.ref sb7)])) := by
  obtain ⟨oCS, oCz, oSF, r_wsf⟩ := id hO
  have K1 := Keep.refl hs1 []
  show own_GoW p e below s _ _ _ _ (T.setTop (mkF m 153 #[rv a1, iv (1 : Int32), ya, yb, yc, yd, ye, .unset] [(.ref sb7)]))
  refine own_goW (fun _ k => XS.astore X0.here hx rfl (hb hby d11_153) rfl rfl (l' := #[rv a1, iv (1 : Int32), ya, yb, yc, yd, ye, rv sb7]) rfl (XS.iloadN X0.here hx rfl (hb hby d11_155) rfl (XS.ifNo X0.here hx rfl (hb hby d11_156) rfl ((if0 _ _).trans (feq (by decide : ¬ ((1 : Int32) = (0 : Int32)))).1) (XS.aload X0.here hx rfl (hb hby d11_159) rfl rfl k)))) ?_
  obtain ⟨b1, T1, h1, vm1, u1, X1, e1, E1, hSn, hZn, hownn, hJn, li1, tx1, sl1, st1⟩ := own_ldcK X0 hS hx hZ hown hL (List.mem_of_getElem? (i := 1) rfl) (ow188 hw) (own_wS hw) e0 hJ (by decide) (g := (mkF m 161 #[rv a1, iv (1 : Int32), ya, yb, yc, yd, ye, rv sb7] [(.ref sb7)])) rfl (hb hby d11_161) (n := 4) (by decide) (by decide) (by show _ ≤ 24; omega) (by show _ ≤ 400; omega)
  refine own_goW st1 ?_
  clear st1 X0 e0
  replace hS := hSn
  replace hZ := hZn
  replace hown := hownn
  replace hJ := hJn
  clear hSn hZn hownn hJn
  replace O0 := own_oldExt O0 E1
  replace K0 := K0.ext E1
  replace K1 := K1.ext E1
  clear E1
  obtain ⟨t1, kt1, g11, g21, g31, g41⟩ := own_litFacts hZ sl1 tx1 (by decide)
  clear sl1 tx1
  replace g41 : Arv Z h1 t1 kt1 .byte (1 : Int32) [(.int (48 : Int32))] (.int (0 : Int32)) := g41
  obtain ⟨v2, T2, L2, X2, hQ2, st2⟩ := own_callV (y := own_y30) (z := own_y30) X1 hx hZ hown (ow189 hw) (ow190 hw) (notFace_of_selects (args := #[]) (mvT hZ (ow192 hw))) (ow192 hw) (ow191 hw) (ow7 hw) (ow193 hw) (rm_seqG l Z a0 hw hO [] sb7 b1 t kt nz (vl : List Value) t1 kt1 (48 : Int32) h1 O0 (fp0.keep K1) (fp1.keep K1 nin0) (fp2.keep K1 nin0) (fp3.keep K1 nin0) g11 g31 g21 g41) 0 0 0 (by show _ ≤ 24; omega) (by show _ ≤ 400; omega) e1 (fp0.keep K1) (g := (mkF m 163 #[rv a1, iv (1 : Int32), ya, yb, yc, yd, ye, rv sb7] [(.ref b1), (.ref sb7)])) rfl (by rw [hml]; rfl) [(.ref b1)] [] (lenOf own_pd_27 rfl) rfl rfl (hb hby d11_163)
  obtain ⟨w3, rfl, Nc5, Kc4⟩ := hQ2
  refine own_goW st2 ?_
  clear st2 X1 e1
  replace N0 := Fr.app N0 Nc5
  clear Nc5
  by_cases hc6 : w3 = (0 : Int32)
  · refine own_goW (fun _ k => XS.ifNo X2.here hx rfl (hb hby d11_166) rfl ((if0 _ _).trans (teq hc6).2) k) ?_
    show own_GoW p e below s _ _ _ _ (T2.setTop (mkF m 169 #[rv a1, iv (1 : Int32), ya, yb, yc, yd, ye, rv sb7] []))
    obtain ⟨T7, h7, X7, e7, E7, A7, D7, -, st7⟩ := newO X2 hx hZ hown (ow198 hw) (ow199 hw) (ow200 hw) Kc4 (g := (mkF m 169 #[rv a1, iv (1 : Int32), ya, yb, yc, yd, ye, rv sb7] [])) rfl (hb hby d11_169) (by show _ ≤ 24; omega) (by show _ ≤ 400; omega)
    obtain ⟨b7, g7⟩ : ∃ z, z = h1.size := ⟨_, rfl⟩
    rw [← g7] at A7 D7 st7
    refine own_goW st7 ?_
    clear st7 X2 Kc4
    have ge7 := Nat.le_of_eq g7.symm
    have ne8 : b1 ≠ b7 := Nat.ne_of_lt (Nat.lt_of_lt_of_le g11.lt ge7)
    have ne9 : t1 ≠ b7 := Nat.ne_of_lt (Nat.lt_of_lt_of_le g41.lt ge7)
    have big10 : Z.heap.size ≤ b7 := Nat.le_trans O0.1 ge7
    have sz11 : h0.size ≤ b7 := Nat.le_trans K0.1 ge7
    have sz12 : hs1.size ≤ b7 := Nat.le_trans K1.1 ge7
    replace g11 := g11.ext E7
    replace g21 := g21.ext E7
    replace g31 := g31.ext E7
    replace g41 := g41.ext E7
    replace O0 := own_oldExt O0 E7
    replace K0 := K0.ext E7
    replace K1 := K1.ext E7
    replace hS := own_since hS E7.1
    replace hJ := own_Jext hJ E7
    clear E7
    have f13 : Fld Z h7 b7 "java/lang/AbstractStringBuilder" "value" "[B" .null := D7 (Or.inl (ow213 hw)) (ty := (.array .byte)) own_fd0
    have f14 : Fld Z h7 b7 "java/lang/AbstractStringBuilder" "coder" "B" (.int (0 : Int32)) := D7 (Or.inl (ow215 hw)) (ty := .byte) own_fd1
    have f15 : Fld Z h7 b7 "java/lang/AbstractStringBuilder" "count" "I" (.int (0 : Int32)) := D7 (Or.inl (ow228 hw)) (ty := .int) own_fd2
    refine own_goW (fun _ k => XS.dup X7.here hx rfl (hb hby d11_172) rfl rfl k) ?_
    obtain ⟨v16, T16, L16, X16, hQ16, st16⟩ := own_callI (y := own_y32) X7 hx hZ hown (ow201 hw) (ow202 hw) (ow200 hw) (ow203 hw) (rm_sbinit l Z a0 hw hO [] b7 h7 O0 A7 f13 f14 f15 big10) 1 1 16 rfl (by show _ ≤ 24; omega) (by show _ ≤ 400; omega) e7 (g := (mkF m 173 #[rv a1, iv (1 : Int32), ya, yb, yc, yd, ye, rv sb7] [(.ref b7), (.ref b7)])) rfl (by rw [hml]; rfl) b7 [] [(.ref b7)] (lenOf own_pd_28 rfl) rfl rfl (hb hby d11_173)
    obtain ⟨w17, w18, w19, rfl, Nc27, Kc26, hb20, f21, f22, f23, f24, f25⟩ := hQ16
    refine own_goW st16 ?_
    clear st16 X7 e7
    replace N0 := Fr.app N0 Nc27
    clear Nc27
    have ne28 : b1 ≠ w17 := Nat.ne_of_lt (Nat.lt_of_lt_of_le g11.lt hb20)
    have ne29 : t1 ≠ w17 := Nat.ne_of_lt (Nat.lt_of_lt_of_le g41.lt hb20)
    have ne30 : b7 ≠ w17 := Nat.ne_of_lt (Nat.lt_of_lt_of_le A7.lt hb20)
    have big31 : Z.heap.size ≤ w17 := Nat.le_trans O0.1 hb20
    have sz32 : h0.size ≤ w17 := Nat.le_trans K0.1 hb20
    have sz33 : hs1.size ≤ w17 := Nat.le_trans K1.1 hb20
    replace hS := own_since hS Kc26.1
    replace hJ := own_Jkeep hZ hJ Kc26 (allS (own_farE A7 (by decide) (ow199 hw)) all0)
    replace g11 := g11.keep Kc26
    replace g21 := g21.keep Kc26 (ninS ne8 nin0)
    replace g31 := g31.keep Kc26 (ninS ne8 nin0)
    replace g41 := g41.keep Kc26 (ninS ne9 nin0)
    replace A7 := A7.keep Kc26
    clear f13
    clear f14
    clear f15
    replace O0 := own_oldKeep O0 Kc26 (allS big10 all0)
    replace K0 := K0.trans Kc26 (allS (Or.inr sz11) all0)
    replace K1 := K1.trans Kc26 (allS (Or.inr sz12) all0)
    clear Kc26
    obtain ⟨b34, T34, h34, vm34, u34, X34, e34, E34, hSn, hZn, hownn, hJn, li34, tx34, sl34, st34⟩ := own_ldcK X16 hS hx hZ hown hL (List.mem_of_getElem? (i := 2) rfl) (ow57 hw) (own_wS hw) (rfl : T16.heap = T16.heap) hJ (by decide) (g := (mkF m 176 #[rv a1, iv (1 : Int32), ya, yb, yc, yd, ye, rv sb7] [(.ref b7)])) rfl (hb hby d11_176) (n := 4) (by decide) (by decide) (by show _ ≤ 24; omega) (by show _ ≤ 400; omega)
    refine own_goW st34 ?_
    clear st34 X16
    replace hS := hSn
    replace hZ := hZn
    replace hown := hownn
    replace hJ := hJn
    clear hSn hZn hownn hJn
    replace g11 := g11.ext E34
    replace g21 := g21.ext E34
    replace g31 := g31.ext E34
    replace g41 := g41.ext E34
    replace f21 := f21.ext E34
    replace f22 := f22.ext E34
    replace f23 := f23.ext E34
    replace f24 := f24.ext E34
    replace f25 := f25.ext E34
    replace O0 := own_oldExt O0 E34
    replace K0 := K0.ext E34
    replace K1 := K1.ext E34
    clear E34
    obtain ⟨t34, kt34, g134, g234, g334, g434⟩ := own_litFacts hZ sl34 tx34 (by decide)
    clear sl34 tx34
    replace g434 : Arv Z h34 t34 kt34 .byte (1 : Int32) [(.int (45 : Int32))] (.int (0 : Int32)) := g434
    obtain ⟨v35, T35, L35, X35, hQ35, st35⟩ := own_callV (y := own_y38) (z := own_y38) X34 hx hZ hown (ow216 hw) (ow217 hw) (notFace_of_selects (args := #[]) (mvT hZ (ow219 hw))) (ow219 hw) (ow218 hw) (ow200 hw) (ow220 hw) (rm_sappG l Z a0 hw hO [] b7 b34 w17 w18 (w19 : List Value) t34 kt34 (1 : Int32) ([(.int (45 : Int32))] : List Value) (0 : Int32) (1 : Int32) h34 O0 f21 f22 f23 f24 f25 g134 g334 g234 g434 big10 big31 (own_neN g434 f25 (by decide)) (by unfold own_Ft; decide : own_Ft (0 : Int32) (1 : Int32)) (by decide : ((0 : Int32) + (1 : Int32)) = (1 : Int32)) (by decide : ¬ ((0 : Int32) < ((1 : Int32) - (16 : Int32))))) 0 0 0 (by show _ ≤ 24; omega) (by show _ ≤ 400; omega) e34 f21 (g := (mkF m 178 #[rv a1, iv (1 : Int32), ya, yb, yc, yd, ye, rv sb7] [(.ref b34), (.ref b7)])) rfl (by rw [hml]; rfl) [(.ref b34)] [] (lenOf own_pd_29 rfl) rfl rfl (hb hby d11_178)
    obtain ⟨w36, rfl, Nc43, Kc42, f37, f38, f39, f40, f41⟩ := hQ35
    refine own_goW st35 ?_
    clear st35 X34 e34
    replace N0 := Fr.app N0 Nc43
    clear Nc43
    replace hS := own_since hS Kc42.1
    replace hJ := own_JkeepB (own_L16 hw) hZ hJ Kc42 (allS (Or.inl (own_farE f21 (by decide) (ow199 hw))) (allS (Or.inr (own_far16 f25 (ow6 hw))) all0))
    have ne44 : b34 ≠ w17 := (Exa.neArv g134 f25 (ow6 hw))
    have ne45 : b34 ≠ b7 := (ne_exa g134 f21 (by decide))
    have ne46 : t34 ≠ w17 := (own_neN g434 f25 (by decide))
    have ne47 : t34 ≠ b7 := (Ne.symm (Exa.neArv f21 g434 (ow199 hw)))
    replace g11 := g11.keep Kc42
    replace g21 := g21.keep Kc42 (ninS ne8 (ninS ne28 nin0))
    replace g31 := g31.keep Kc42 (ninS ne8 (ninS ne28 nin0))
    replace g41 := g41.keep Kc42 (ninS ne9 (ninS ne29 nin0))
    replace f21 := f21.keep Kc42
    clear f22
    clear f23
    clear f24
    clear f25
    replace g134 := g134.keep Kc42
    replace g234 := g234.keep Kc42 (ninS ne45 (ninS ne44 nin0))
    replace g334 := g334.keep Kc42 (ninS ne45 (ninS ne44 nin0))
    replace g434 := g434.keep Kc42 (ninS ne47 (ninS ne46 nin0))
    replace O0 := own_oldKeep O0 Kc42 (allS big10 (allS big31 all0))
    replace K0 := K0.trans Kc42 (allS (Or.inr sz11) (allS (Or.inr sz32) all0))
    replace K1 := K1.trans Kc42 (allS (Or.inr sz12) (allS (Or.inr sz33) all0))
    clear Kc42
    refine own_goW (fun _ k => XS.aload X35.here hx rfl (hb hby d11_181) rfl rfl k) ?_
    obtain ⟨v48, T48, L48, X48, hQ48, st48⟩ := own_callV (y := own_y38) (z := own_y38) X35 hx hZ hown (ow216 hw) (ow217 hw) (notFace_of_selects (args := #[]) (mvT hZ (ow219 hw))) (ow219 hw) (ow218 hw) (ow200 hw) (ow220 hw) (rm_sappG l Z a0 hw hO [] b7 sb7 w17 w18 (w36 : List Value) t kt nz (vl : List Value) (1 : Int32) cm T35.heap O0 f37 f38 f39 f40 f41 (fp0.keep K1) (fp1.keep K1 nin0) (fp2.keep K1 nin0) (fp3.keep K1 nin0) big10 big31 (Nat.ne_of_lt (Nat.lt_of_lt_of_le fp3.lt sz33)) hf1 hc1 he1) 0 0 0 (by show _ ≤ 24; omega) (by show _ ≤ 400; omega) (rfl : T35.heap = T35.heap) f37 (g := (mkF m 183 #[rv a1, iv (1 : Int32), ya, yb, yc, yd, ye, rv sb7] [(.ref sb7), (.ref b7)])) rfl (by rw [hml]; rfl) [(.ref sb7)] [] (lenOf own_pd_29 rfl) rfl rfl (hb hby d11_183)
    obtain ⟨w49, rfl, Nc56, Kc55, f50, f51, f52, f53, f54⟩ := hQ48
    refine own_goW st48 ?_
    clear st48 X35
    replace N0 := Fr.app N0 Nc56
    clear Nc56
    replace hS := own_since hS Kc55.1
    replace hJ := own_JkeepB (own_L16 hw) hZ hJ Kc55 (allS (Or.inl (own_farE f37 (by decide) (ow199 hw))) (allS (Or.inr (own_far16 f41 (ow6 hw))) all0))
    replace g11 := g11.keep Kc55
    replace g21 := g21.keep Kc55 (ninS ne8 (ninS ne28 nin0))
    replace g31 := g31.keep Kc55 (ninS ne8 (ninS ne28 nin0))
    replace g41 := g41.keep Kc55 (ninS ne9 (ninS ne29 nin0))
    replace f37 := f37.keep Kc55
    replace g134 := g134.keep Kc55
    replace g234 := g234.keep Kc55 (ninS ne45 (ninS ne44 nin0))
    replace g334 := g334.keep Kc55 (ninS ne45 (ninS ne44 nin0))
    replace g434 := g434.keep Kc55 (ninS ne47 (ninS ne46 nin0))
    clear f38
    clear f39
    clear f40
    clear f41
    replace O0 := own_oldKeep O0 Kc55 (allS big10 (allS big31 all0))
    replace K0 := K0.trans Kc55 (allS (Or.inr sz11) (allS (Or.inr sz32) all0))
    replace K1 := K1.trans Kc55 (allS (Or.inr sz12) (allS (Or.inr sz33) all0))
    clear Kc55
    obtain ⟨v57, T57, L57, X57, hQ57, st57⟩ := own_callV (y := own_y45) (z := own_y45) X48 hx hZ hown (ow251 hw) (ow252 hw) (notFace_of_selects (args := #[]) (mvT hZ (ow254 hw))) (ow254 hw) (ow253 hw) (ow200 hw) (ow255 hw) (rm_sbtsG l Z a0 hw hO [] b7 w17 w18 (w49 : List Value) cm T48.heap O0 f50 f51 f52 f53 f54 hr1 hn1) 0 2 20 (by show _ ≤ 24; omega) (by show _ ≤ 400; omega) (rfl : T48.heap = T48.heap) f50 (g := (mkF m 186 #[rv a1, iv (1 : Int32), ya, yb, yc, yd, ye, rv sb7] [(.ref b7)])) rfl (by rw [hml]; rfl) [] [] (lenOf own_pd_30 rfl) rfl rfl (hb hby d11_186)
    obtain ⟨w58, rfl, Nc62, Kc61, hb59, f60⟩ := hQ57
    refine own_goW st57 ?_
    clear st57 X48
    replace N0 := Fr.app N0 Nc62
    clear Nc62
    have ne63 : b1 ≠ w58 := Nat.ne_of_lt (Nat.lt_of_lt_of_le g11.lt hb59)
    have ne64 : t1 ≠ w58 := Nat.ne_of_lt (Nat.lt_of_lt_of_le g41.lt hb59)
    have ne65 : b7 ≠ w58 := Nat.ne_of_lt (Nat.lt_of_lt_of_le f50.lt hb59)
    have ne66 : b34 ≠ w58 := Nat.ne_of_lt (Nat.lt_of_lt_of_le g134.lt hb59)
    have ne67 : t34 ≠ w58 := Nat.ne_of_lt (Nat.lt_of_lt_of_le g434.lt hb59)
    have ne68 : w17 ≠ w58 := Nat.ne_of_lt (Nat.lt_of_lt_of_le f54.lt hb59)
    have big69 : Z.heap.size ≤ w58 := Nat.le_trans O0.1 hb59
    have sz70 : h0.size ≤ w58 := Nat.le_trans K0.1 hb59
    have sz71 : hs1.size ≤ w58 := Nat.le_trans K1.1 hb59
    replace hS := own_since hS Kc61.1
    replace hJ := own_Jkeep hZ hJ Kc61 all0
    replace g11 := g11.keep Kc61
    replace g21 := g21.keep Kc61 nin0
    replace g31 := g31.keep Kc61 nin0
    replace g41 := g41.keep Kc61 nin0
    replace f50 := f50.keep Kc61
    replace g134 := g134.keep Kc61
    replace g234 := g234.keep Kc61 nin0
    replace g334 := g334.keep Kc61 nin0
    replace g434 := g434.keep Kc61 nin0
    replace f51 := f51.keep Kc61 nin0
    replace f52 := f52.keep Kc61 nin0
    replace f53 := f53.keep Kc61 nin0
    replace f54 := f54.keep Kc61 nin0
    replace O0 := own_oldKeep O0 Kc61 all0
    replace K0 := K0.trans Kc61 all0
    replace K1 := K1.trans Kc61 all0
    clear Kc61
    show own_GoW p e below s _ _ _ _ (T57.setTop (mkF m 189 #[rv a1, iv (1 : Int32), ya, yb, yc, yd, ye, rv sb7] [(.ref w58)]))
    refine own_goW (fun _ k => XS.goto X57.here hx rfl (pc0 := 189) (pc' := 194) rfl (hb hby d11_189) (by decide) (by decide) k) ?_
    show own_GoW p e below s _ _ _ _ (T57.setTop (mkF m 194 #[rv a1, iv (1 : Int32), ya, yb, yc, yd, ye, rv sb7] [(.ref w58)]))
    refine own_retAW X57 hS hL hZ hJ hx hlk (rfl : T57.heap = T57.heap) hret rfl rfl (hb hby d11_194) (by show _ ≤ 24; omega) (by show _ ≤ 400; omega) ?_
    exact ⟨w58, rfl, N0, K0, f60⟩
  · refine own_goW (fun _ k => XS.ifYes X2.here hx rfl (pc0 := 166) (pc' := 192) rfl (hb hby d11_166) rfl ((if0 _ _).trans (feq hc6).2) (by decide) (by decide) k) ?_
    show own_GoW p e below s _ _ _ _ (T2.setTop (mkF m 192 #[rv a1, iv (1 : Int32), ya, yb, yc, yd, ye, rv sb7] []))
    refine own_goW (fun _ k => XS.aload X2.here hx rfl (hb hby d11_192) rfl rfl k) ?_
    show own_GoW p e below s _ _ _ _ (T2.setTop (mkF m 194 #[rv a1, iv (1 : Int32), ya, yb, yc, yd, ye, rv sb7] [(.ref sb7)]))
    refine own_retAW X2 hS hL hZ hJ hx hlk Kc4 hret rfl rfl (hb hby d11_194) (by show _ ≤ 24; omega) (by show _ ≤ 400; omega) ?_
    exact ⟨sb7, rfl, N0, K0, (fp0.keep K1)⟩
theorem ef_plain (m : MethodId) (x0 : Addr) : entryFrame m #[(.ref x0)] 8 = mkF m 0 #[rv x0, .unset, .unset, .unset, .unset, .unset, .unset, .unset] [] := by first | (simp [entryFrame, mkF, argsToLocals, Value.category]; done) | rfl
set_option maxRecDepth 65536 in
set_option maxHeartbeats 40000000 in
theorem rm_plain (l : Launch) (Z : State) (a0 : Array Value) (hw : own_W Z a0) {zc : Int32} {wsf : Value} (hO : own_Olds Z zc wsf) (ws : List Jvm.Cond) (a1 : Addr) (h0 : Heap) (O0 : Ext Z.heap h0) (fp0 : Exa Z h0 a1 "java/lang/String") (fp1 : own_Num Z h0 a1) :
    MetFree l own_y46 (head1 (Jvm.Cond.code own_y46 prog_69_method_5_code 8 (some (.object "java/lang/String")) :: ws) ({ frames := 9, cells := 24, slots := 400, locals := 190 } : Room)) (fun a U => a = #[(.ref a1)] ∧ Z.Warmed39 U.vm ∧ U.heap = h0 ∧ own_J Z U.vm U.heap) (fun _ _ _ _ _ => True) (fun _ U o U' => ∃ v L, o = .returned v ∧ ((Q_plain Z zc wsf a1 h0) v U'.heap L ∧ own_J Z U'.vm U'.heap) ∧ ReturnedEndW U o U' L ({ frames := 9, cells := 24, slots := 400, locals := 190 } : Room).cells ({ frames := 9, cells := 24, slots := 400, locals := 190 } : Room).slots) := by
  refine own_metW (Q := (Q_plain Z zc wsf a1 h0)) _ _ (plainFor_of_name own_pn_5) ?_
  intro p e s vm0 m below meth c T X0 hS hJ hJ0 hZ0 hI hs0 hx hby hml hret hlk hZ hown hnm e0
  replace hown : (s.setVm vm0).vm.findClass "com/example/ibex/ibex/model/Constant" = some m.cls := hown
  replace hnm : meth.name = "plainDigits" := hnm
  have hml : c.maxLocals = 8 := hml
  obtain ⟨oCS, oCz, oSF, r_wsf⟩ := id hO
  have N0 := Fr.nil Z.heap.size
  have hL := own_Lhw hw
  have K0 := Keep.refl h0 []
  refine own_goW (fun _ k => castTop (ef_plain m a1) k) ?_
  show own_GoW p e below s _ _ _ _ (T.setTop (mkF m 0 #[rv a1, .unset, .unset, .unset, .unset, .unset, .unset, .unset] []))
  rcases fp1 with ⟨t, kt, x1, x3, g1, g2, g3, hgx1, hgx3⟩ | ⟨t, kt, x1, x2, g1, g2, g3, hgx1, hgx2⟩ | ⟨t, kt, x0, x2, g1, g2, g3, hgx0, hgx2⟩ | ⟨t, kt, x0, x1, g1, g2, g3, hgx0, hgx1⟩
  · show own_GoW p e below s _ _ _ _ (T.setTop (mkF m 0 #[rv a1, .unset, .unset, .unset, .unset, .unset, .unset, .unset] []))
    show own_GoW p e below s _ _ _ _ (T.setTop (mkF m 0 #[rv a1, .unset, .unset, .unset, .unset, .unset, .unset, .unset] []))
    refine own_goW (fun _ k => XS.aloadN X0.here hx rfl (hb hby d11_0) rfl rfl k) ?_
    obtain ⟨b72, T72, h72, vm72, u72, X72, e72, E72, hSn, hZn, hownn, hJn, li72, tx72, sl72, st72⟩ := own_ldcK X0 hS hx hZ hown hL (List.mem_of_getElem? (i := 2) rfl) (ow57 hw) (own_wS hw) e0 hJ (by decide) (g := (mkF m 1 #[rv a1, .unset, .unset, .unset, .unset, .unset, .unset, .unset] [(.ref a1)])) rfl (hb hby d11_1) (n := 4) (by decide) (by decide) (by show _ ≤ 24; omega) (by show _ ≤ 400; omega)
    refine own_goW st72 ?_
    clear st72 X0 e0
    replace hS := hSn
    replace hZ := hZn
    replace hown := hownn
    replace hJ := hJn
    clear hSn hZn hownn hJn
    replace O0 := own_oldExt O0 E72
    replace K0 := K0.ext E72
    clear E72
    obtain ⟨t72, kt72, g172, g272, g372, g472⟩ := own_litFacts hZ sl72 tx72 (by decide)
    clear sl72 tx72
    replace g472 : Arv Z h72 t72 kt72 .byte (1 : Int32) [(.int (45 : Int32))] (.int (0 : Int32)) := g472
    obtain ⟨v73, T73, L73, X73, hQ73, st73⟩ := own_callV (y := own_y12) (z := own_y12) X72 hx hZ hown (ow58 hw) (ow59 hw) (notFace_of_selects (args := #[]) (mvT hZ (ow61 hw))) (ow61 hw) (ow60 hw) (ow7 hw) (ow62 hw) (rm_sw1G l Z a0 hw hO [] a1 b72 t t72 kt (4 : Int32) ([(.int x1), (.int (46 : Int32)), (.int x3)] : List Value) (45 : Int32) kt72 (45 : Int32) h72 O0 (fp0.keep K0) (g1.keep K0 nin0) (g2.keep K0 nin0) (g3.keep K0 nin0) g172 g372 g272 g472 (by decide : (0 : Int32) < (4 : Int32)) (by decide : ¬ (((4 : Int32) - (1 : Int32)) < (0 : Int32)))) 0 0 0 (by show _ ≤ 24; omega) (by show _ ≤ 400; omega) e72 (fp0.keep K0) (g := (mkF m 3 #[rv a1, .unset, .unset, .unset, .unset, .unset, .unset, .unset] [(.ref b72), (.ref a1)])) rfl (by rw [hml]; rfl) [(.ref b72)] [] (lenOf own_pd_31 rfl) rfl rfl (hb hby d11_3)
    rcases hQ73 with hQ73 | hQ73
    · obtain ⟨rfl, Nc76, hp74, Kc75⟩ := hQ73
      refine own_goW st73 ?_
      clear st73 X72 e72
      replace N0 := Fr.app N0 Nc76
      clear Nc76
      show own_GoW p e below s _ _ _ _ (T73.setTop (mkF m 6 #[rv a1, .unset, .unset, .unset, .unset, .unset, .unset, .unset] [(.int (1 : Int32))]))
      refine own_goW (fun _ k => XS.istoreN X73.here hx rfl (hb hby d11_6) rfl (l' := #[rv a1, iv (1 : Int32), .unset, .unset, .unset, .unset, .unset, .unset]) rfl (XS.iloadN X73.here hx rfl (hb hby d11_7) rfl (XS.ifNo X73.here hx rfl (hb hby d11_8) rfl ((if0 _ _).trans (feq (by decide : ¬ ((1 : Int32) = (0 : Int32)))).1) (XS.iconst X73.here hx rfl (hb hby d11_11) (XS.goto X73.here hx rfl (pc0 := 12) (pc' := 16) rfl (hb hby d11_12) (by decide) (by decide) (XS.istoreN X73.here hx rfl (hb hby d11_16) rfl (l' := #[rv a1, iv (1 : Int32), iv (1 : Int32), .unset, .unset, .unset, .unset, .unset]) rfl (XS.aloadN X73.here hx rfl (hb hby d11_17) rfl rfl (XS.bipush X73.here hx rfl (hb hby d11_18) k)))))))) ?_
      show own_GoW p e below s _ _ _ _ (T73.setTop (mkF m 20 #[rv a1, iv (1 : Int32), iv (1 : Int32), .unset, .unset, .unset, .unset, .unset] [(.int (46 : Int32)), (.ref a1)]))
      have dt77 : own_Dot Z h72 t (4 : Int32) (2 : Int32) := Or.inl ⟨_, _, _, rfl, rfl, (g3.keep K0 nin0), hgx1, hgx3⟩
      obtain ⟨v78, T78, L78, X78, hQ78, st78⟩ := own_callV (y := own_y19) (z := own_y19) X73 hx hZ hown (ow82 hw) (ow83 hw) (notFace_of_selects (args := #[]) (mvT hZ (ow85 hw))) (ow85 hw) (ow84 hw) (ow7 hw) (ow86 hw) (rm_io1G l Z a0 hw hO [] a1 t kt (4 : Int32) ([(.int (45 : Int32)), (.int x1), (.int (46 : Int32)), (.int x3)] : List Value) (2 : Int32) h72 O0 (fp0.keep K0) (g1.keep K0 nin0) (g2.keep K0 nin0) (g3.keep K0 nin0) dt77 (by decide : (0 : Int32) < (4 : Int32))) 0 0 0 (by show _ ≤ 24; omega) (by show _ ≤ 400; omega) Kc75 (fp0.keep K0) (g := (mkF m 20 #[rv a1, iv (1 : Int32), iv (1 : Int32), .unset, .unset, .unset, .unset, .unset] [(.int (46 : Int32)), (.ref a1)])) rfl (by rw [hml]; rfl) [(.int (46 : Int32))] [] (lenOf own_pd_32 rfl) rfl rfl (hb hby d11_20)
      obtain ⟨rfl, Nc80, Kc79⟩ := hQ78
      refine own_goW st78 ?_
      clear st78 X73 Kc75
      replace N0 := Fr.app N0 Nc80
      clear Nc80
      refine own_goW (fun _ k => XS.istoreN X78.here hx rfl (hb hby d11_23) rfl (l' := #[rv a1, iv (1 : Int32), iv (1 : Int32), iv (2 : Int32), .unset, .unset, .unset, .unset]) rfl (XS.iloadN X78.here hx rfl (hb hby d11_24) rfl (XS.ifYes X78.here hx rfl (pc0 := 25) (pc' := 35) rfl (hb hby d11_25) rfl ((if0 _ _).trans (flt (by decide : ¬ ((2 : Int32) < (0 : Int32)))).2.1) (by decide) (by decide) (XS.iloadN X78.here hx rfl (hb hby d11_35) rfl (XS.istore X78.here hx rfl (hb hby d11_36) rfl (l' := #[rv a1, iv (1 : Int32), iv (1 : Int32), iv (2 : Int32), iv (2 : Int32), .unset, .unset, .unset]) rfl (XS.aloadN X78.here hx rfl (hb hby d11_38) rfl rfl (XS.iloadN X78.here hx rfl (hb hby d11_39) rfl k))))))) ?_
      show own_GoW p e below s _ _ _ _ (T78.setTop (mkF m 40 #[rv a1, iv (1 : Int32), iv (1 : Int32), iv (2 : Int32), iv (2 : Int32), .unset, .unset, .unset] [(.int (1 : Int32)), (.ref a1)]))
      refine own_goW (fun _ k => XS.iload X78.here hx rfl (hb hby d11_40) rfl k) ?_
      obtain ⟨v81, T81, L81, X81, hQ81, st81⟩ := own_callS (y := own_y20) X78 hx hZ hown (ow115 hw) (ow116 hw) (ow37 hw) (ow117 hw) (rm_dig_4_1_2 l Z a0 hw hO [] a1 t kt (45 : Int32) x1 (46 : Int32) x3 h72 O0 (fp0.keep K0) (g1.keep K0 nin0) (g2.keep K0 nin0) (g3.keep K0 nin0) hgx1) 0 0 0 (by show _ ≤ 24; omega) (by show _ ≤ 400; omega) Kc79 (g := (mkF m 42 #[rv a1, iv (1 : Int32), iv (1 : Int32), iv (2 : Int32), iv (2 : Int32), .unset, .unset, .unset] [(.int (2 : Int32)), (.int (1 : Int32)), (.ref a1)])) rfl (by rw [hml]; rfl) [(.ref a1), (.int (1 : Int32)), (.int (2 : Int32))] [] (lenOf own_pd_33 rfl) rfl rfl (hb hby d11_42)
      obtain ⟨rfl, Nc83, Kc82⟩ := hQ81
      refine own_goW st81 ?_
      clear st81 X78 Kc79
      replace N0 := Fr.app N0 Nc83
      clear Nc83
      refine own_goW (fun _ k => XS.ifNo X81.here hx rfl (hb hby d11_45) rfl ((if0 _ _).trans (feq (by decide : ¬ ((1 : Int32) = (0 : Int32)))).1) (XS.iloadN X81.here hx rfl (hb hby d11_48) rfl (XS.ifNo X81.here hx rfl (hb hby d11_49) rfl ((if0 _ _).trans (flt (by decide : ¬ ((2 : Int32) < (0 : Int32)))).1) (XS.aloadN X81.here hx rfl (hb hby d11_52) rfl rfl (XS.iloadN X81.here hx rfl (hb hby d11_53) rfl (XS.iconst X81.here hx rfl (hb hby d11_54) k)))))) ?_
      show own_GoW p e below s _ _ _ _ (T81.setTop (mkF m 55 #[rv a1, iv (1 : Int32), iv (1 : Int32), iv (2 : Int32), iv (2 : Int32), .unset, .unset, .unset] [(.int (1 : Int32)), (.int (2 : Int32)), (.ref a1)]))
      refine own_goW (fun _ k => XS.iadd X81.here hx rfl (hb hby d11_55) rfl (XS.aloadN X81.here hx rfl (hb hby d11_56) rfl rfl k)) ?_
      obtain ⟨v84, T84, L84, X84, hQ84, st84⟩ := own_callV (y := own_y4) (z := own_y4) X81 hx hZ hown (ow114 hw) (ow69 hw) (notFace_of_selects (args := #[]) (mvT hZ (ow71 hw))) (ow71 hw) (ow70 hw) (ow7 hw) (ow72 hw) (rm_slenG l Z a0 hw hO [] a1 t kt (4 : Int32) ([(.int (45 : Int32)), (.int x1), (.int (46 : Int32)), (.int x3)] : List Value) h72 O0 (fp0.keep K0) (g1.keep K0 nin0) (g2.keep K0 nin0) (g3.keep K0 nin0)) 2 0 0 (by show _ ≤ 24; omega) (by show _ ≤ 400; omega) Kc82 (fp0.keep K0) (g := (mkF m 57 #[rv a1, iv (1 : Int32), iv (1 : Int32), iv (2 : Int32), iv (2 : Int32), .unset, .unset, .unset] [(.ref a1), (.int (3 : Int32)), (.ref a1)])) rfl (by rw [hml]; rfl) [] [(.int (3 : Int32)), (.ref a1)] (lenOf own_pd_6 rfl) rfl rfl (hb hby d11_57)
      obtain ⟨rfl, Nc86, Kc85⟩ := hQ84
      refine own_goW st84 ?_
      clear st84 X81 Kc82
      replace N0 := Fr.app N0 Nc86
      clear Nc86
      obtain ⟨v87, T87, L87, X87, hQ87, st87⟩ := own_callS (y := own_y20) X84 hx hZ hown (ow115 hw) (ow116 hw) (ow37 hw) (ow117 hw) (rm_dig_4_3_4 l Z a0 hw hO [] a1 t kt (45 : Int32) x1 (46 : Int32) x3 h72 O0 (fp0.keep K0) (g1.keep K0 nin0) (g2.keep K0 nin0) (g3.keep K0 nin0) hgx3) 0 0 0 (by show _ ≤ 24; omega) (by show _ ≤ 400; omega) Kc85 (g := (mkF m 60 #[rv a1, iv (1 : Int32), iv (1 : Int32), iv (2 : Int32), iv (2 : Int32), .unset, .unset, .unset] [(.int (4 : Int32)), (.int (3 : Int32)), (.ref a1)])) rfl (by rw [hml]; rfl) [(.ref a1), (.int (3 : Int32)), (.int (4 : Int32))] [] (lenOf own_pd_33 rfl) rfl rfl (hb hby d11_60)
      obtain ⟨rfl, Nc89, Kc88⟩ := hQ87
      refine own_goW st87 ?_
      clear st87 X84 Kc85
      replace N0 := Fr.app N0 Nc89
      clear Nc89
      refine own_goW (fun _ k => XS.ifYes X87.here hx rfl (pc0 := 63) (pc' := 76) rfl (hb hby d11_63) rfl ((if0 _ _).trans (feq (by decide : ¬ ((1 : Int32) = (0 : Int32)))).2) (by decide) (by decide) (XS.iloadN X87.here hx rfl (hb hby d11_76) rfl (XS.istore X87.here hx rfl (hb hby d11_77) rfl (l' := #[rv a1, iv (1 : Int32), iv (1 : Int32), iv (2 : Int32), iv (2 : Int32), iv (1 : Int32), .unset, .unset]) rfl (XS.iload X87.here hx rfl (hb hby d11_79) rfl k)))) ?_
      show own_GoW p e below s _ _ _ _ (T87.setTop (mkF m 81 #[rv a1, iv (1 : Int32), iv (1 : Int32), iv (2 : Int32), iv (2 : Int32), iv (1 : Int32), .unset, .unset] [(.int (1 : Int32))]))
      refine own_goW (fun _ k => XS.iload X87.here hx rfl (hb hby d11_81) rfl (XS.iconst X87.here hx rfl (hb hby d11_83) (XS.isub X87.here hx rfl (hb hby d11_84) rfl (XS.icmpYes X87.here hx rfl (pc0 := 85) (pc' := 105) rfl (hb hby d11_85) rfl (flt (by decide : ¬ ((1 : Int32) < (1 : Int32)))).2.1 (by decide) (by decide) (XS.aloadN X87.here hx rfl (hb hby d11_105) rfl rfl k))))) ?_
      obtain ⟨v90, T90, L90, X90, hQ90, st90⟩ := own_callV (y := own_y4) (z := own_y4) X87 hx hZ hown (ow114 hw) (ow69 hw) (notFace_of_selects (args := #[]) (mvT hZ (ow71 hw))) (ow71 hw) (ow70 hw) (ow7 hw) (ow72 hw) (rm_slenG l Z a0 hw hO [] a1 t kt (4 : Int32) ([(.int (45 : Int32)), (.int x1), (.int (46 : Int32)), (.int x3)] : List Value) h72 O0 (fp0.keep K0) (g1.keep K0 nin0) (g2.keep K0 nin0) (g3.keep K0 nin0)) 0 0 0 (by show _ ≤ 24; omega) (by show _ ≤ 400; omega) Kc88 (fp0.keep K0) (g := (mkF m 106 #[rv a1, iv (1 : Int32), iv (1 : Int32), iv (2 : Int32), iv (2 : Int32), iv (1 : Int32), .unset, .unset] [(.ref a1)])) rfl (by rw [hml]; rfl) [] [] (lenOf own_pd_6 rfl) rfl rfl (hb hby d11_106)
      obtain ⟨rfl, Nc92, Kc91⟩ := hQ90
      refine own_goW st90 ?_
      clear st90 X87 Kc88
      replace N0 := Fr.app N0 Nc92
      clear Nc92
      refine own_goW (fun _ k => XS.istore X90.here hx rfl (hb hby d11_109) rfl (l' := #[rv a1, iv (1 : Int32), iv (1 : Int32), iv (2 : Int32), iv (2 : Int32), iv (1 : Int32), iv (4 : Int32), .unset]) rfl (XS.iload X90.here hx rfl (hb hby d11_111) rfl k)) ?_
      show own_GoW p e below s _ _ _ _ (T90.setTop (mkF m 113 #[rv a1, iv (1 : Int32), iv (1 : Int32), iv (2 : Int32), iv (2 : Int32), iv (1 : Int32), iv (4 : Int32), .unset] [(.int (4 : Int32))]))
      refine own_goW (fun _ k => XS.iload X90.here hx rfl (hb hby d11_113) rfl (XS.icmpNo X90.here hx rfl (hb hby d11_115) rfl (tlt (by decide : (2 : Int32) < (4 : Int32))).2.2.2 (XS.aloadN X90.here hx rfl (hb hby d11_118) rfl rfl (XS.iload X90.here hx rfl (hb hby d11_119) rfl (XS.iconst X90.here hx rfl (hb hby d11_121) (XS.isub X90.here hx rfl (hb hby d11_122) rfl k)))))) ?_
      obtain ⟨v93, T93, L93, X93, hQ93, st93⟩ := own_callV (y := own_y9) (z := own_y9) X90 hx hZ hown (ow118 hw) (ow119 hw) (notFace_of_selects (args := #[]) (mvT hZ (ow121 hw))) (ow121 hw) (ow120 hw) (ow7 hw) (ow122 hw) (rm_ch_3 l Z a0 hw hO [] a1 t kt (4 : Int32) ([] : List Value) (45 : Int32) x1 (46 : Int32) x3 h72 O0 (fp0.keep K0) (g1.keep K0 nin0) (g2.keep K0 nin0) (g3.keep K0 nin0) (by decide : (3 : Int32) < (4 : Int32))) 0 0 0 (by show _ ≤ 24; omega) (by show _ ≤ 400; omega) Kc91 (fp0.keep K0) (g := (mkF m 123 #[rv a1, iv (1 : Int32), iv (1 : Int32), iv (2 : Int32), iv (2 : Int32), iv (1 : Int32), iv (4 : Int32), .unset] [(.int (3 : Int32)), (.ref a1)])) rfl (by rw [hml]; rfl) [(.int (3 : Int32))] [] (lenOf own_pd_12 rfl) rfl rfl (hb hby d11_123)
      obtain ⟨rfl, Nc95, Kc94⟩ := hQ93
      refine own_goW st93 ?_
      clear st93 X90 Kc91
      replace N0 := Fr.app N0 Nc95
      clear Nc95
      refine own_goW (fun _ k => XS.bipush X93.here hx rfl (hb hby d11_126) k) ?_
      show own_GoW p e below s _ _ _ _ (T93.setTop (mkF m 128 #[rv a1, iv (1 : Int32), iv (1 : Int32), iv (2 : Int32), iv (2 : Int32), iv (1 : Int32), iv (4 : Int32), .unset] [(.int (48 : Int32)), (.int (x3 &&& (255 : Int32)))]))
      by_cases hc96 : (x3 &&& (255 : Int32)) = (48 : Int32)
      · refine own_goW (fun _ k => XS.icmpYes X93.here hx rfl (pc0 := 128) (pc' := 139) rfl (hb hby d11_128) rfl (teq hc96).1 (by decide) (by decide) k) ?_
        show own_GoW p e below s _ _ _ _ (T93.setTop (mkF m 139 #[rv a1, iv (1 : Int32), iv (1 : Int32), iv (2 : Int32), iv (2 : Int32), iv (1 : Int32), iv (4 : Int32), .unset] []))
        refine own_goW (fun _ k => XS.iinc X93.here hx rfl (hb hby d11_139) rfl (l' := #[rv a1, iv (1 : Int32), iv (1 : Int32), iv (2 : Int32), iv (2 : Int32), iv (1 : Int32), iv (3 : Int32), .unset]) rfl (XS.goto X93.here hx rfl (pc0 := 142) (pc' := 111) rfl (hb hby d11_142) (by decide) (by decide) (XS.iload X93.here hx rfl (hb hby d11_111) rfl (XS.iload X93.here hx rfl (hb hby d11_113) rfl (XS.icmpNo X93.here hx rfl (hb hby d11_115) rfl (tlt (by decide : (2 : Int32) < (3 : Int32))).2.2.2 (XS.aloadN X93.here hx rfl (hb hby d11_118) rfl rfl (XS.iload X93.here hx rfl (hb hby d11_119) rfl (XS.iconst X93.here hx rfl (hb hby d11_121) k)))))))) ?_
        show own_GoW p e below s _ _ _ _ (T93.setTop (mkF m 122 #[rv a1, iv (1 : Int32), iv (1 : Int32), iv (2 : Int32), iv (2 : Int32), iv (1 : Int32), iv (3 : Int32), .unset] [(.int (1 : Int32)), (.int (3 : Int32)), (.ref a1)]))
        refine own_goW (fun _ k => XS.isub X93.here hx rfl (hb hby d11_122) rfl k) ?_
        obtain ⟨v97, T97, L97, X97, hQ97, st97⟩ := own_callV (y := own_y9) (z := own_y9) X93 hx hZ hown (ow118 hw) (ow119 hw) (notFace_of_selects (args := #[]) (mvT hZ (ow121 hw))) (ow121 hw) (ow120 hw) (ow7 hw) (ow122 hw) (rm_ch_2 l Z a0 hw hO [] a1 t kt (4 : Int32) ([(.int x3)] : List Value) (45 : Int32) x1 (46 : Int32) h72 O0 (fp0.keep K0) (g1.keep K0 nin0) (g2.keep K0 nin0) (g3.keep K0 nin0) (by decide : (2 : Int32) < (4 : Int32))) 0 0 0 (by show _ ≤ 24; omega) (by show _ ≤ 400; omega) Kc94 (fp0.keep K0) (g := (mkF m 123 #[rv a1, iv (1 : Int32), iv (1 : Int32), iv (2 : Int32), iv (2 : Int32), iv (1 : Int32), iv (3 : Int32), .unset] [(.int (2 : Int32)), (.ref a1)])) rfl (by rw [hml]; rfl) [(.int (2 : Int32))] [] (lenOf own_pd_12 rfl) rfl rfl (hb hby d11_123)
        obtain ⟨rfl, Nc99, Kc98⟩ := hQ97
        refine own_goW st97 ?_
        clear st97 X93 Kc94
        replace N0 := Fr.app N0 Nc99
        clear Nc99
        refine own_goW (fun _ k => XS.bipush X97.here hx rfl (hb hby d11_126) k) ?_
        by_cases hc100 : ((46 : Int32) &&& (255 : Int32)) = (48 : Int32)
        · refine own_goW (fun _ k => XS.icmpYes X97.here hx rfl (pc0 := 128) (pc' := 139) rfl (hb hby d11_128) rfl (teq hc100).1 (by decide) (by decide) k) ?_
          show own_GoW p e below s _ _ _ _ (T97.setTop (mkF m 139 #[rv a1, iv (1 : Int32), iv (1 : Int32), iv (2 : Int32), iv (2 : Int32), iv (1 : Int32), iv (3 : Int32), .unset] []))
          refine own_goW (fun _ k => XS.iinc X97.here hx rfl (hb hby d11_139) rfl (l' := #[rv a1, iv (1 : Int32), iv (1 : Int32), iv (2 : Int32), iv (2 : Int32), iv (1 : Int32), iv (2 : Int32), .unset]) rfl (XS.goto X97.here hx rfl (pc0 := 142) (pc' := 111) rfl (hb hby d11_142) (by decide) (by decide) (XS.iload X97.here hx rfl (hb hby d11_111) rfl (XS.iload X97.here hx rfl (hb hby d11_113) rfl (XS.icmpYes X97.here hx rfl (pc0 := 115) (pc' := 145) rfl (hb hby d11_115) rfl (flt (by decide : ¬ ((2 : Int32) < (2 : Int32)))).2.2.2 (by decide) (by decide) (XS.aloadN X97.here hx rfl (hb hby d11_145) rfl rfl (XS.iload X97.here hx rfl (hb hby d11_146) rfl (XS.iload X97.here hx rfl (hb hby d11_148) rfl k)))))))) ?_
          show own_GoW p e below s _ _ _ _ (T97.setTop (mkF m 150 #[rv a1, iv (1 : Int32), iv (1 : Int32), iv (2 : Int32), iv (2 : Int32), iv (1 : Int32), iv (2 : Int32), .unset] [(.int (2 : Int32)), (.int (1 : Int32)), (.ref a1)]))
          obtain ⟨v101, T101, L101, X101, hQ101, st101⟩ := own_callV (y := own_y28) (z := own_y28) X97 hx hZ hown (ow134 hw) (ow135 hw) (notFace_of_selects (args := #[]) (mvT hZ (ow137 hw))) (ow137 hw) (ow136 hw) (ow7 hw) (ow138 hw) (rm_subG l Z a0 hw hO [] a1 (1 : Int32) (2 : Int32) t kt (4 : Int32) ([(.int (45 : Int32)), (.int x1), (.int (46 : Int32)), (.int x3)] : List Value) (1 : Int32) h72 O0 (fp0.keep K0) (g1.keep K0 nin0) (g2.keep K0 nin0) (g3.keep K0 nin0) (by unfold own_Rg; decide : own_Rg (1 : Int32) (2 : Int32) (4 : Int32)) (by decide : ((2 : Int32) - (1 : Int32)) = (1 : Int32)) (by decide : ¬ ((1 : Int32) = (0 : Int32))) (by unfold own_Rg; decide : own_Rg (1 : Int32) ((1 : Int32) + (1 : Int32)) (4 : Int32)) (by decide : ¬ ((1 : Int32) = (0 : Int32) ∧ (2 : Int32) = (4 : Int32))) (by decide : ¬ ((1 : Int32) = (0 : Int32) ∧ ((1 : Int32) + (1 : Int32)) = (4 : Int32)))) 0 2 20 (by show _ ≤ 24; omega) (by show _ ≤ 400; omega) Kc98 (fp0.keep K0) (g := (mkF m 150 #[rv a1, iv (1 : Int32), iv (1 : Int32), iv (2 : Int32), iv (2 : Int32), iv (1 : Int32), iv (2 : Int32), .unset] [(.int (2 : Int32)), (.int (1 : Int32)), (.ref a1)])) rfl (by rw [hml]; rfl) [(.int (1 : Int32)), (.int (2 : Int32))] [] (lenOf own_pd_34 rfl) rfl rfl (hb hby d11_150)
          obtain ⟨w102, w103, w104, w105, rfl, Nc112, Kc111, hb106, f107, f108, f109, f110⟩ := hQ101
          refine own_goW st101 ?_
          clear st101 X97 Kc98
          replace N0 := Fr.app N0 Nc112
          clear Nc112
          have ne113 : b72 ≠ w102 := Nat.ne_of_lt (Nat.lt_of_lt_of_le g172.lt hb106)
          have ne114 : t72 ≠ w102 := Nat.ne_of_lt (Nat.lt_of_lt_of_le g472.lt hb106)
          have big115 : Z.heap.size ≤ w102 := Nat.le_trans O0.1 hb106
          have sz116 : h0.size ≤ w102 := Nat.le_trans K0.1 hb106
          replace hS := own_since hS Kc111.1
          replace hJ := own_Jkeep hZ hJ Kc111 all0
          replace dt77 := (own_DotK dt77 Kc111)
          replace g172 := g172.keep Kc111
          replace g272 := g272.keep Kc111 nin0
          replace g372 := g372.keep Kc111 nin0
          replace g472 := g472.keep Kc111 nin0
          replace O0 := own_oldKeep O0 Kc111 all0
          replace K0 := K0.trans Kc111 all0
          clear Kc111
          show own_GoW p e below s _ _ _ _ (T101.setTop (mkF m 153 #[rv a1, iv (1 : Int32), iv (1 : Int32), iv (2 : Int32), iv (2 : Int32), iv (1 : Int32), iv (2 : Int32), .unset] [(.ref w102)]))
          exact sg_pd153 hw hO a1 w102 w103 w104 (1 : Int32) (w105 : List Value) (iv (1 : Int32) : Slot) (iv (2 : Int32) : Slot) (iv (2 : Int32) : Slot) (iv (1 : Int32) : Slot) (iv (2 : Int32) : Slot) (2 : Int32) h0 T101.heap X101 hS hL hJ hx hby hml hret hlk hZ hown hnm (rfl : T101.heap = T101.heap) N0 O0 K0 f107 f108 f109 f110 (by unfold own_Ft; decide : own_Ft (1 : Int32) (1 : Int32)) (by decide : ((1 : Int32) + (1 : Int32)) = (2 : Int32)) (by decide : ¬ ((0 : Int32) < ((2 : Int32) - (16 : Int32)))) (by unfold own_Rg; decide : own_Rg (0 : Int32) (2 : Int32) (16 : Int32)) (by decide : ¬ ((0 : Int32) = (0 : Int32) ∧ (2 : Int32) = (16 : Int32))) (by omega) (by omega)
        · refine own_goW (fun _ k => XS.icmpNo X97.here hx rfl (hb hby d11_128) rfl (feq hc100).1 k) ?_
          show own_GoW p e below s _ _ _ _ (T97.setTop (mkF m 131 #[rv a1, iv (1 : Int32), iv (1 : Int32), iv (2 : Int32), iv (2 : Int32), iv (1 : Int32), iv (3 : Int32), .unset] []))
          refine own_goW (fun _ k => XS.iload X97.here hx rfl (hb hby d11_131) rfl (XS.iconst X97.here hx rfl (hb hby d11_133) (XS.isub X97.here hx rfl (hb hby d11_134) rfl (XS.iloadN X97.here hx rfl (hb hby d11_135) rfl (XS.icmpNo X97.here hx rfl (hb hby d11_136) rfl (teq (by decide : (2 : Int32) = (2 : Int32))).2 (XS.iinc X97.here hx rfl (hb hby d11_139) rfl (l' := #[rv a1, iv (1 : Int32), iv (1 : Int32), iv (2 : Int32), iv (2 : Int32), iv (1 : Int32), iv (2 : Int32), .unset]) rfl (XS.goto X97.here hx rfl (pc0 := 142) (pc' := 111) rfl (hb hby d11_142) (by decide) (by decide) (XS.iload X97.here hx rfl (hb hby d11_111) rfl k)))))))) ?_
          show own_GoW p e below s _ _ _ _ (T97.setTop (mkF m 113 #[rv a1, iv (1 : Int32), iv (1 : Int32), iv (2 : Int32), iv (2 : Int32), iv (1 : Int32), iv (2 : Int32), .unset] [(.int (2 : Int32))]))
          refine own_goW (fun _ k => XS.iload X97.here hx rfl (hb hby d11_113) rfl (XS.icmpYes X97.here hx rfl (pc0 := 115) (pc' := 145) rfl (hb hby d11_115) rfl (flt (by decide : ¬ ((2 : Int32) < (2 : Int32)))).2.2.2 (by decide) (by decide) (XS.aloadN X97.here hx rfl (hb hby d11_145) rfl rfl (XS.iload X97.here hx rfl (hb hby d11_146) rfl (XS.iload X97.here hx rfl (hb hby d11_148) rfl k))))) ?_
          obtain ⟨v117, T117, L117, X117, hQ117, st117⟩ := own_callV (y := own_y28) (z := own_y28) X97 hx hZ hown (ow134 hw) (ow135 hw) (notFace_of_selects (args := #[]) (mvT hZ (ow137 hw))) (ow137 hw) (ow136 hw) (ow7 hw) (ow138 hw) (rm_subG l Z a0 hw hO [] a1 (1 : Int32) (2 : Int32) t kt (4 : Int32) ([(.int (45 : Int32)), (.int x1), (.int (46 : Int32)), (.int x3)] : List Value) (1 : Int32) h72 O0 (fp0.keep K0) (g1.keep K0 nin0) (g2.keep K0 nin0) (g3.keep K0 nin0) (by unfold own_Rg; decide : own_Rg (1 : Int32) (2 : Int32) (4 : Int32)) (by decide : ((2 : Int32) - (1 : Int32)) = (1 : Int32)) (by decide : ¬ ((1 : Int32) = (0 : Int32))) (by unfold own_Rg; decide : own_Rg (1 : Int32) ((1 : Int32) + (1 : Int32)) (4 : Int32)) (by decide : ¬ ((1 : Int32) = (0 : Int32) ∧ (2 : Int32) = (4 : Int32))) (by decide : ¬ ((1 : Int32) = (0 : Int32) ∧ ((1 : Int32) + (1 : Int32)) = (4 : Int32)))) 0 2 20 (by show _ ≤ 24; omega) (by show _ ≤ 400; omega) Kc98 (fp0.keep K0) (g := (mkF m 150 #[rv a1, iv (1 : Int32), iv (1 : Int32), iv (2 : Int32), iv (2 : Int32), iv (1 : Int32), iv (2 : Int32), .unset] [(.int (2 : Int32)), (.int (1 : Int32)), (.ref a1)])) rfl (by rw [hml]; rfl) [(.int (1 : Int32)), (.int (2 : Int32))] [] (lenOf own_pd_34 rfl) rfl rfl (hb hby d11_150)
          obtain ⟨w118, w119, w120, w121, rfl, Nc128, Kc127, hb122, f123, f124, f125, f126⟩ := hQ117
          refine own_goW st117 ?_
          clear st117 X97 Kc98
          replace N0 := Fr.app N0 Nc128
          clear Nc128
          have ne129 : b72 ≠ w118 := Nat.ne_of_lt (Nat.lt_of_lt_of_le g172.lt hb122)
          have ne130 : t72 ≠ w118 := Nat.ne_of_lt (Nat.lt_of_lt_of_le g472.lt hb122)
          have big131 : Z.heap.size ≤ w118 := Nat.le_trans O0.1 hb122
          have sz132 : h0.size ≤ w118 := Nat.le_trans K0.1 hb122
          replace hS := own_since hS Kc127.1
          replace hJ := own_Jkeep hZ hJ Kc127 all0
          replace dt77 := (own_DotK dt77 Kc127)
          replace g172 := g172.keep Kc127
          replace g272 := g272.keep Kc127 nin0
          replace g372 := g372.keep Kc127 nin0
          replace g472 := g472.keep Kc127 nin0
          replace O0 := own_oldKeep O0 Kc127 all0
          replace K0 := K0.trans Kc127 all0
          clear Kc127
          show own_GoW p e below s _ _ _ _ (T117.setTop (mkF m 153 #[rv a1, iv (1 : Int32), iv (1 : Int32), iv (2 : Int32), iv (2 : Int32), iv (1 : Int32), iv (2 : Int32), .unset] [(.ref w118)]))
          exact sg_pd153 hw hO a1 w118 w119 w120 (1 : Int32) (w121 : List Value) (iv (1 : Int32) : Slot) (iv (2 : Int32) : Slot) (iv (2 : Int32) : Slot) (iv (1 : Int32) : Slot) (iv (2 : Int32) : Slot) (2 : Int32) h0 T117.heap X117 hS hL hJ hx hby hml hret hlk hZ hown hnm (rfl : T117.heap = T117.heap) N0 O0 K0 f123 f124 f125 f126 (by unfold own_Ft; decide : own_Ft (1 : Int32) (1 : Int32)) (by decide : ((1 : Int32) + (1 : Int32)) = (2 : Int32)) (by decide : ¬ ((0 : Int32) < ((2 : Int32) - (16 : Int32)))) (by unfold own_Rg; decide : own_Rg (0 : Int32) (2 : Int32) (16 : Int32)) (by decide : ¬ ((0 : Int32) = (0 : Int32) ∧ (2 : Int32) = (16 : Int32))) (by omega) (by omega)
      · refine own_goW (fun _ k => XS.icmpNo X93.here hx rfl (hb hby d11_128) rfl (feq hc96).1 k) ?_
        show own_GoW p e below s _ _ _ _ (T93.setTop (mkF m 131 #[rv a1, iv (1 : Int32), iv (1 : Int32), iv (2 : Int32), iv (2 : Int32), iv (1 : Int32), iv (4 : Int32), .unset] []))
        refine own_goW (fun _ k => XS.iload X93.here hx rfl (hb hby d11_131) rfl (XS.iconst X93.here hx rfl (hb hby d11_133) (XS.isub X93.here hx rfl (hb hby d11_134) rfl (XS.iloadN X93.here hx rfl (hb hby d11_135) rfl (XS.icmpYes X93.here hx rfl (pc0 := 136) (pc' := 145) rfl (hb hby d11_136) rfl (feq (by decide : ¬ ((3 : Int32) = (2 : Int32)))).2 (by decide) (by decide) (XS.aloadN X93.here hx rfl (hb hby d11_145) rfl rfl (XS.iload X93.here hx rfl (hb hby d11_146) rfl (XS.iload X93.here hx rfl (hb hby d11_148) rfl k)))))))) ?_
        show own_GoW p e below s _ _ _ _ (T93.setTop (mkF m 150 #[rv a1, iv (1 : Int32), iv (1 : Int32), iv (2 : Int32), iv (2 : Int32), iv (1 : Int32), iv (4 : Int32), .unset] [(.int (4 : Int32)), (.int (1 : Int32)), (.ref a1)]))
        obtain ⟨v133, T133, L133, X133, hQ133, st133⟩ := own_callV (y := own_y28) (z := own_y28) X93 hx hZ hown (ow134 hw) (ow135 hw) (notFace_of_selects (args := #[]) (mvT hZ (ow137 hw))) (ow137 hw) (ow136 hw) (ow7 hw) (ow138 hw) (rm_subG l Z a0 hw hO [] a1 (1 : Int32) (4 : Int32) t kt (4 : Int32) ([(.int (45 : Int32)), (.int x1), (.int (46 : Int32)), (.int x3)] : List Value) (3 : Int32) h72 O0 (fp0.keep K0) (g1.keep K0 nin0) (g2.keep K0 nin0) (g3.keep K0 nin0) (by unfold own_Rg; decide : own_Rg (1 : Int32) (4 : Int32) (4 : Int32)) (by decide : ((4 : Int32) - (1 : Int32)) = (3 : Int32)) (by decide : ¬ ((3 : Int32) = (0 : Int32))) (by unfold own_Rg; decide : own_Rg (1 : Int32) ((1 : Int32) + (3 : Int32)) (4 : Int32)) (by decide : ¬ ((1 : Int32) = (0 : Int32) ∧ (4 : Int32) = (4 : Int32))) (by decide : ¬ ((1 : Int32) = (0 : Int32) ∧ ((1 : Int32) + (3 : Int32)) = (4 : Int32)))) 0 2 20 (by show _ ≤ 24; omega) (by show _ ≤ 400; omega) Kc94 (fp0.keep K0) (g := (mkF m 150 #[rv a1, iv (1 : Int32), iv (1 : Int32), iv (2 : Int32), iv (2 : Int32), iv (1 : Int32), iv (4 : Int32), .unset] [(.int (4 : Int32)), (.int (1 : Int32)), (.ref a1)])) rfl (by rw [hml]; rfl) [(.int (1 : Int32)), (.int (4 : Int32))] [] (lenOf own_pd_34 rfl) rfl rfl (hb hby d11_150)
        obtain ⟨w134, w135, w136, w137, rfl, Nc144, Kc143, hb138, f139, f140, f141, f142⟩ := hQ133
        refine own_goW st133 ?_
        clear st133 X93 Kc94
        replace N0 := Fr.app N0 Nc144
        clear Nc144
        have ne145 : b72 ≠ w134 := Nat.ne_of_lt (Nat.lt_of_lt_of_le g172.lt hb138)
        have ne146 : t72 ≠ w134 := Nat.ne_of_lt (Nat.lt_of_lt_of_le g472.lt hb138)
        have big147 : Z.heap.size ≤ w134 := Nat.le_trans O0.1 hb138
        have sz148 : h0.size ≤ w134 := Nat.le_trans K0.1 hb138
        replace hS := own_since hS Kc143.1
        replace hJ := own_Jkeep hZ hJ Kc143 all0
        replace dt77 := (own_DotK dt77 Kc143)
        replace g172 := g172.keep Kc143
        replace g272 := g272.keep Kc143 nin0
        replace g372 := g372.keep Kc143 nin0
        replace g472 := g472.keep Kc143 nin0
        replace O0 := own_oldKeep O0 Kc143 all0
        replace K0 := K0.trans Kc143 all0
        clear Kc143
        show own_GoW p e below s _ _ _ _ (T133.setTop (mkF m 153 #[rv a1, iv (1 : Int32), iv (1 : Int32), iv (2 : Int32), iv (2 : Int32), iv (1 : Int32), iv (4 : Int32), .unset] [(.ref w134)]))
        exact sg_pd153 hw hO a1 w134 w135 w136 (3 : Int32) (w137 : List Value) (iv (1 : Int32) : Slot) (iv (2 : Int32) : Slot) (iv (2 : Int32) : Slot) (iv (1 : Int32) : Slot) (iv (4 : Int32) : Slot) (4 : Int32) h0 T133.heap X133 hS hL hJ hx hby hml hret hlk hZ hown hnm (rfl : T133.heap = T133.heap) N0 O0 K0 f139 f140 f141 f142 (by unfold own_Ft; decide : own_Ft (1 : Int32) (3 : Int32)) (by decide : ((1 : Int32) + (3 : Int32)) = (4 : Int32)) (by decide : ¬ ((0 : Int32) < ((4 : Int32) - (16 : Int32)))) (by unfold own_Rg; decide : own_Rg (0 : Int32) (4 : Int32) (16 : Int32)) (by decide : ¬ ((0 : Int32) = (0 : Int32) ∧ (4 : Int32) = (16 : Int32))) (by omega) (by omega)
    · obtain ⟨rfl, Nc151, hp149, Kc150⟩ := hQ73
      refine own_goW st73 ?_
      clear st73 X72 e72
      replace N0 := Fr.app N0 Nc151
      clear Nc151
      exact absurd (by decide : (45 : Int32) = (45 : Int32)) hp149
  · show own_GoW p e below s _ _ _ _ (T.setTop (mkF m 0 #[rv a1, .unset, .unset, .unset, .unset, .unset, .unset, .unset] []))
    show own_GoW p e below s _ _ _ _ (T.setTop (mkF m 0 #[rv a1, .unset, .unset, .unset, .unset, .unset, .unset, .unset] []))
    refine own_goW (fun _ k => XS.aloadN X0.here hx rfl (hb hby d11_0) rfl rfl k) ?_
    obtain ⟨b152, T152, h152, vm152, u152, X152, e152, E152, hSn, hZn, hownn, hJn, li152, tx152, sl152, st152⟩ := own_ldcK X0 hS hx hZ hown hL (List.mem_of_getElem? (i := 2) rfl) (ow57 hw) (own_wS hw) e0 hJ (by decide) (g := (mkF m 1 #[rv a1, .unset, .unset, .unset, .unset, .unset, .unset, .unset] [(.ref a1)])) rfl (hb hby d11_1) (n := 4) (by decide) (by decide) (by show _ ≤ 24; omega) (by show _ ≤ 400; omega)
    refine own_goW st152 ?_
    clear st152 X0 e0
    replace hS := hSn
    replace hZ := hZn
    replace hown := hownn
    replace hJ := hJn
    clear hSn hZn hownn hJn
    replace O0 := own_oldExt O0 E152
    replace K0 := K0.ext E152
    clear E152
    obtain ⟨t152, kt152, g1152, g2152, g3152, g4152⟩ := own_litFacts hZ sl152 tx152 (by decide)
    clear sl152 tx152
    replace g4152 : Arv Z h152 t152 kt152 .byte (1 : Int32) [(.int (45 : Int32))] (.int (0 : Int32)) := g4152
    obtain ⟨v153, T153, L153, X153, hQ153, st153⟩ := own_callV (y := own_y12) (z := own_y12) X152 hx hZ hown (ow58 hw) (ow59 hw) (notFace_of_selects (args := #[]) (mvT hZ (ow61 hw))) (ow61 hw) (ow60 hw) (ow7 hw) (ow62 hw) (rm_sw1G l Z a0 hw hO [] a1 b152 t t152 kt (3 : Int32) ([(.int x1), (.int x2)] : List Value) (45 : Int32) kt152 (45 : Int32) h152 O0 (fp0.keep K0) (g1.keep K0 nin0) (g2.keep K0 nin0) (g3.keep K0 nin0) g1152 g3152 g2152 g4152 (by decide : (0 : Int32) < (3 : Int32)) (by decide : ¬ (((3 : Int32) - (1 : Int32)) < (0 : Int32)))) 0 0 0 (by show _ ≤ 24; omega) (by show _ ≤ 400; omega) e152 (fp0.keep K0) (g := (mkF m 3 #[rv a1, .unset, .unset, .unset, .unset, .unset, .unset, .unset] [(.ref b152), (.ref a1)])) rfl (by rw [hml]; rfl) [(.ref b152)] [] (lenOf own_pd_31 rfl) rfl rfl (hb hby d11_3)
    rcases hQ153 with hQ153 | hQ153
    · obtain ⟨rfl, Nc156, hp154, Kc155⟩ := hQ153
      refine own_goW st153 ?_
      clear st153 X152 e152
      replace N0 := Fr.app N0 Nc156
      clear Nc156
      show own_GoW p e below s _ _ _ _ (T153.setTop (mkF m 6 #[rv a1, .unset, .unset, .unset, .unset, .unset, .unset, .unset] [(.int (1 : Int32))]))
      refine own_goW (fun _ k => XS.istoreN X153.here hx rfl (hb hby d11_6) rfl (l' := #[rv a1, iv (1 : Int32), .unset, .unset, .unset, .unset, .unset, .unset]) rfl (XS.iloadN X153.here hx rfl (hb hby d11_7) rfl (XS.ifNo X153.here hx rfl (hb hby d11_8) rfl ((if0 _ _).trans (feq (by decide : ¬ ((1 : Int32) = (0 : Int32)))).1) (XS.iconst X153.here hx rfl (hb hby d11_11) (XS.goto X153.here hx rfl (pc0 := 12) (pc' := 16) rfl (hb hby d11_12) (by decide) (by decide) (XS.istoreN X153.here hx rfl (hb hby d11_16) rfl (l' := #[rv a1, iv (1 : Int32), iv (1 : Int32), .unset, .unset, .unset, .unset, .unset]) rfl (XS.aloadN X153.here hx rfl (hb hby d11_17) rfl rfl (XS.bipush X153.here hx rfl (hb hby d11_18) k)))))))) ?_
      show own_GoW p e below s _ _ _ _ (T153.setTop (mkF m 20 #[rv a1, iv (1 : Int32), iv (1 : Int32), .unset, .unset, .unset, .unset, .unset] [(.int (46 : Int32)), (.ref a1)]))
      have dt157 : own_Dot Z h152 t (3 : Int32) (-1 : Int32) := Or.inr (Or.inl ⟨_, _, _, rfl, rfl, (g3.keep K0 nin0), hgx1, hgx2⟩)
      obtain ⟨v158, T158, L158, X158, hQ158, st158⟩ := own_callV (y := own_y19) (z := own_y19) X153 hx hZ hown (ow82 hw) (ow83 hw) (notFace_of_selects (args := #[]) (mvT hZ (ow85 hw))) (ow85 hw) (ow84 hw) (ow7 hw) (ow86 hw) (rm_io1G l Z a0 hw hO [] a1 t kt (3 : Int32) ([(.int (45 : Int32)), (.int x1), (.int x2)] : List Value) (-1 : Int32) h152 O0 (fp0.keep K0) (g1.keep K0 nin0) (g2.keep K0 nin0) (g3.keep K0 nin0) dt157 (by decide : (0 : Int32) < (3 : Int32))) 0 0 0 (by show _ ≤ 24; omega) (by show _ ≤ 400; omega) Kc155 (fp0.keep K0) (g := (mkF m 20 #[rv a1, iv (1 : Int32), iv (1 : Int32), .unset, .unset, .unset, .unset, .unset] [(.int (46 : Int32)), (.ref a1)])) rfl (by rw [hml]; rfl) [(.int (46 : Int32))] [] (lenOf own_pd_32 rfl) rfl rfl (hb hby d11_20)
      obtain ⟨rfl, Nc160, Kc159⟩ := hQ158
      refine own_goW st158 ?_
      clear st158 X153 Kc155
      replace N0 := Fr.app N0 Nc160
      clear Nc160
      refine own_goW (fun _ k => XS.istoreN X158.here hx rfl (hb hby d11_23) rfl (l' := #[rv a1, iv (1 : Int32), iv (1 : Int32), iv (-1 : Int32), .unset, .unset, .unset, .unset]) rfl (XS.iloadN X158.here hx rfl (hb hby d11_24) rfl (XS.ifNo X158.here hx rfl (hb hby d11_25) rfl ((if0 _ _).trans (tlt (by decide : (-1 : Int32) < (0 : Int32))).2.1) (XS.aloadN X158.here hx rfl (hb hby d11_28) rfl rfl k)))) ?_
      obtain ⟨v161, T161, L161, X161, hQ161, st161⟩ := own_callV (y := own_y4) (z := own_y4) X158 hx hZ hown (ow114 hw) (ow69 hw) (notFace_of_selects (args := #[]) (mvT hZ (ow71 hw))) (ow71 hw) (ow70 hw) (ow7 hw) (ow72 hw) (rm_slenG l Z a0 hw hO [] a1 t kt (3 : Int32) ([(.int (45 : Int32)), (.int x1), (.int x2)] : List Value) h152 O0 (fp0.keep K0) (g1.keep K0 nin0) (g2.keep K0 nin0) (g3.keep K0 nin0)) 0 0 0 (by show _ ≤ 24; omega) (by show _ ≤ 400; omega) Kc159 (fp0.keep K0) (g := (mkF m 29 #[rv a1, iv (1 : Int32), iv (1 : Int32), iv (-1 : Int32), .unset, .unset, .unset, .unset] [(.ref a1)])) rfl (by rw [hml]; rfl) [] [] (lenOf own_pd_6 rfl) rfl rfl (hb hby d11_29)
      obtain ⟨rfl, Nc163, Kc162⟩ := hQ161
      refine own_goW st161 ?_
      clear st161 X158 Kc159
      replace N0 := Fr.app N0 Nc163
      clear Nc163
      refine own_goW (fun _ k => XS.goto X161.here hx rfl (pc0 := 32) (pc' := 36) rfl (hb hby d11_32) (by decide) (by decide) (XS.istore X161.here hx rfl (hb hby d11_36) rfl (l' := #[rv a1, iv (1 : Int32), iv (1 : Int32), iv (-1 : Int32), iv (3 : Int32), .unset, .unset, .unset]) rfl k)) ?_
      show own_GoW p e below s _ _ _ _ (T161.setTop (mkF m 38 #[rv a1, iv (1 : Int32), iv (1 : Int32), iv (-1 : Int32), iv (3 : Int32), .unset, .unset, .unset] []))
      refine own_goW (fun _ k => XS.aloadN X161.here hx rfl (hb hby d11_38) rfl rfl (XS.iloadN X161.here hx rfl (hb hby d11_39) rfl (XS.iload X161.here hx rfl (hb hby d11_40) rfl k))) ?_
      obtain ⟨v164, T164, L164, X164, hQ164, st164⟩ := own_callS (y := own_y20) X161 hx hZ hown (ow115 hw) (ow116 hw) (ow37 hw) (ow117 hw) (rm_dig_3_1_3 l Z a0 hw hO [] a1 t kt (45 : Int32) x1 x2 h152 O0 (fp0.keep K0) (g1.keep K0 nin0) (g2.keep K0 nin0) (g3.keep K0 nin0) hgx1 hgx2) 0 0 0 (by show _ ≤ 24; omega) (by show _ ≤ 400; omega) Kc162 (g := (mkF m 42 #[rv a1, iv (1 : Int32), iv (1 : Int32), iv (-1 : Int32), iv (3 : Int32), .unset, .unset, .unset] [(.int (3 : Int32)), (.int (1 : Int32)), (.ref a1)])) rfl (by rw [hml]; rfl) [(.ref a1), (.int (1 : Int32)), (.int (3 : Int32))] [] (lenOf own_pd_33 rfl) rfl rfl (hb hby d11_42)
      obtain ⟨rfl, Nc166, Kc165⟩ := hQ164
      refine own_goW st164 ?_
      clear st164 X161 Kc162
      replace N0 := Fr.app N0 Nc166
      clear Nc166
      refine own_goW (fun _ k => XS.ifNo X164.here hx rfl (hb hby d11_45) rfl ((if0 _ _).trans (feq (by decide : ¬ ((1 : Int32) = (0 : Int32)))).1) (XS.iloadN X164.here hx rfl (hb hby d11_48) rfl (XS.ifYes X164.here hx rfl (pc0 := 49) (pc' := 76) rfl (hb hby d11_49) rfl ((if0 _ _).trans (tlt (by decide : (-1 : Int32) < (0 : Int32))).1) (by decide) (by decide) (XS.iloadN X164.here hx rfl (hb hby d11_76) rfl k)))) ?_
      show own_GoW p e below s _ _ _ _ (T164.setTop (mkF m 77 #[rv a1, iv (1 : Int32), iv (1 : Int32), iv (-1 : Int32), iv (3 : Int32), .unset, .unset, .unset] [(.int (1 : Int32))]))
      refine own_goW (fun _ k => XS.istore X164.here hx rfl (hb hby d11_77) rfl (l' := #[rv a1, iv (1 : Int32), iv (1 : Int32), iv (-1 : Int32), iv (3 : Int32), iv (1 : Int32), .unset, .unset]) rfl (XS.iload X164.here hx rfl (hb hby d11_79) rfl (XS.iload X164.here hx rfl (hb hby d11_81) rfl (XS.iconst X164.here hx rfl (hb hby d11_83) (XS.isub X164.here hx rfl (hb hby d11_84) rfl (XS.icmpNo X164.here hx rfl (hb hby d11_85) rfl (tlt (by decide : (1 : Int32) < (2 : Int32))).2.1 (XS.aloadN X164.here hx rfl (hb hby d11_88) rfl rfl (XS.iload X164.here hx rfl (hb hby d11_89) rfl k)))))))) ?_
      show own_GoW p e below s _ _ _ _ (T164.setTop (mkF m 91 #[rv a1, iv (1 : Int32), iv (1 : Int32), iv (-1 : Int32), iv (3 : Int32), iv (1 : Int32), .unset, .unset] [(.int (1 : Int32)), (.ref a1)]))
      obtain ⟨v167, T167, L167, X167, hQ167, st167⟩ := own_callV (y := own_y9) (z := own_y9) X164 hx hZ hown (ow118 hw) (ow119 hw) (notFace_of_selects (args := #[]) (mvT hZ (ow121 hw))) (ow121 hw) (ow120 hw) (ow7 hw) (ow122 hw) (rm_ch_1 l Z a0 hw hO [] a1 t kt (3 : Int32) ([(.int x2)] : List Value) (45 : Int32) x1 h152 O0 (fp0.keep K0) (g1.keep K0 nin0) (g2.keep K0 nin0) (g3.keep K0 nin0) (by decide : (1 : Int32) < (3 : Int32))) 0 0 0 (by show _ ≤ 24; omega) (by show _ ≤ 400; omega) Kc165 (fp0.keep K0) (g := (mkF m 91 #[rv a1, iv (1 : Int32), iv (1 : Int32), iv (-1 : Int32), iv (3 : Int32), iv (1 : Int32), .unset, .unset] [(.int (1 : Int32)), (.ref a1)])) rfl (by rw [hml]; rfl) [(.int (1 : Int32))] [] (lenOf own_pd_12 rfl) rfl rfl (hb hby d11_91)
      obtain ⟨rfl, Nc169, Kc168⟩ := hQ167
      refine own_goW st167 ?_
      clear st167 X164 Kc165
      replace N0 := Fr.app N0 Nc169
      clear Nc169
      refine own_goW (fun _ k => XS.bipush X167.here hx rfl (hb hby d11_94) k) ?_
      by_cases hc170 : (x1 &&& (255 : Int32)) = (48 : Int32)
      · refine own_goW (fun _ k => XS.icmpNo X167.here hx rfl (hb hby d11_96) rfl (teq hc170).2 k) ?_
        show own_GoW p e below s _ _ _ _ (T167.setTop (mkF m 99 #[rv a1, iv (1 : Int32), iv (1 : Int32), iv (-1 : Int32), iv (3 : Int32), iv (1 : Int32), .unset, .unset] []))
        refine own_goW (fun _ k => XS.iinc X167.here hx rfl (hb hby d11_99) rfl (l' := #[rv a1, iv (1 : Int32), iv (1 : Int32), iv (-1 : Int32), iv (3 : Int32), iv (2 : Int32), .unset, .unset]) rfl (XS.goto X167.here hx rfl (pc0 := 102) (pc' := 79) rfl (hb hby d11_102) (by decide) (by decide) (XS.iload X167.here hx rfl (hb hby d11_79) rfl (XS.iload X167.here hx rfl (hb hby d11_81) rfl (XS.iconst X167.here hx rfl (hb hby d11_83) (XS.isub X167.here hx rfl (hb hby d11_84) rfl (XS.icmpYes X167.here hx rfl (pc0 := 85) (pc' := 105) rfl (hb hby d11_85) rfl (flt (by decide : ¬ ((2 : Int32) < (2 : Int32)))).2.1 (by decide) (by decide) (XS.aloadN X167.here hx rfl (hb hby d11_105) rfl rfl k)))))))) ?_
        show own_GoW p e below s _ _ _ _ (T167.setTop (mkF m 106 #[rv a1, iv (1 : Int32), iv (1 : Int32), iv (-1 : Int32), iv (3 : Int32), iv (2 : Int32), .unset, .unset] [(.ref a1)]))
        obtain ⟨v171, T171, L171, X171, hQ171, st171⟩ := own_callV (y := own_y4) (z := own_y4) X167 hx hZ hown (ow114 hw) (ow69 hw) (notFace_of_selects (args := #[]) (mvT hZ (ow71 hw))) (ow71 hw) (ow70 hw) (ow7 hw) (ow72 hw) (rm_slenG l Z a0 hw hO [] a1 t kt (3 : Int32) ([(.int (45 : Int32)), (.int x1), (.int x2)] : List Value) h152 O0 (fp0.keep K0) (g1.keep K0 nin0) (g2.keep K0 nin0) (g3.keep K0 nin0)) 0 0 0 (by show _ ≤ 24; omega) (by show _ ≤ 400; omega) Kc168 (fp0.keep K0) (g := (mkF m 106 #[rv a1, iv (1 : Int32), iv (1 : Int32), iv (-1 : Int32), iv (3 : Int32), iv (2 : Int32), .unset, .unset] [(.ref a1)])) rfl (by rw [hml]; rfl) [] [] (lenOf own_pd_6 rfl) rfl rfl (hb hby d11_106)
        obtain ⟨rfl, Nc173, Kc172⟩ := hQ171
        refine own_goW st171 ?_
        clear st171 X167 Kc168
        replace N0 := Fr.app N0 Nc173
        clear Nc173
        refine own_goW (fun _ k => XS.istore X171.here hx rfl (hb hby d11_109) rfl (l' := #[rv a1, iv (1 : Int32), iv (1 : Int32), iv (-1 : Int32), iv (3 : Int32), iv (2 : Int32), iv (3 : Int32), .unset]) rfl (XS.iload X171.here hx rfl (hb hby d11_111) rfl (XS.iload X171.here hx rfl (hb hby d11_113) rfl (XS.icmpYes X171.here hx rfl (pc0 := 115) (pc' := 145) rfl (hb hby d11_115) rfl (flt (by decide : ¬ ((3 : Int32) < (3 : Int32)))).2.2.2 (by decide) (by decide) (XS.aloadN X171.here hx rfl (hb hby d11_145) rfl rfl (XS.iload X171.here hx rfl (hb hby d11_146) rfl (XS.iload X171.here hx rfl (hb hby d11_148) rfl k))))))) ?_
        show own_GoW p e below s _ _ _ _ (T171.setTop (mkF m 150 #[rv a1, iv (1 : Int32), iv (1 : Int32), iv (-1 : Int32), iv (3 : Int32), iv (2 : Int32), iv (3 : Int32), .unset] [(.int (3 : Int32)), (.int (2 : Int32)), (.ref a1)]))
        obtain ⟨v174, T174, L174, X174, hQ174, st174⟩ := own_callV (y := own_y28) (z := own_y28) X171 hx hZ hown (ow134 hw) (ow135 hw) (notFace_of_selects (args := #[]) (mvT hZ (ow137 hw))) (ow137 hw) (ow136 hw) (ow7 hw) (ow138 hw) (rm_subG l Z a0 hw hO [] a1 (2 : Int32) (3 : Int32) t kt (3 : Int32) ([(.int (45 : Int32)), (.int x1), (.int x2)] : List Value) (1 : Int32) h152 O0 (fp0.keep K0) (g1.keep K0 nin0) (g2.keep K0 nin0) (g3.keep K0 nin0) (by unfold own_Rg; decide : own_Rg (2 : Int32) (3 : Int32) (3 : Int32)) (by decide : ((3 : Int32) - (2 : Int32)) = (1 : Int32)) (by decide : ¬ ((1 : Int32) = (0 : Int32))) (by unfold own_Rg; decide : own_Rg (2 : Int32) ((2 : Int32) + (1 : Int32)) (3 : Int32)) (by decide : ¬ ((2 : Int32) = (0 : Int32) ∧ (3 : Int32) = (3 : Int32))) (by decide : ¬ ((2 : Int32) = (0 : Int32) ∧ ((2 : Int32) + (1 : Int32)) = (3 : Int32)))) 0 2 20 (by show _ ≤ 24; omega) (by show _ ≤ 400; omega) Kc172 (fp0.keep K0) (g := (mkF m 150 #[rv a1, iv (1 : Int32), iv (1 : Int32), iv (-1 : Int32), iv (3 : Int32), iv (2 : Int32), iv (3 : Int32), .unset] [(.int (3 : Int32)), (.int (2 : Int32)), (.ref a1)])) rfl (by rw [hml]; rfl) [(.int (2 : Int32)), (.int (3 : Int32))] [] (lenOf own_pd_34 rfl) rfl rfl (hb hby d11_150)
        obtain ⟨w175, w176, w177, w178, rfl, Nc185, Kc184, hb179, f180, f181, f182, f183⟩ := hQ174
        refine own_goW st174 ?_
        clear st174 X171 Kc172
        replace N0 := Fr.app N0 Nc185
        clear Nc185
        have ne186 : b152 ≠ w175 := Nat.ne_of_lt (Nat.lt_of_lt_of_le g1152.lt hb179)
        have ne187 : t152 ≠ w175 := Nat.ne_of_lt (Nat.lt_of_lt_of_le g4152.lt hb179)
        have big188 : Z.heap.size ≤ w175 := Nat.le_trans O0.1 hb179
        have sz189 : h0.size ≤ w175 := Nat.le_trans K0.1 hb179
        replace hS := own_since hS Kc184.1
        replace hJ := own_Jkeep hZ hJ Kc184 all0
        replace dt157 := (own_DotK dt157 Kc184)
        replace g1152 := g1152.keep Kc184
        replace g2152 := g2152.keep Kc184 nin0
        replace g3152 := g3152.keep Kc184 nin0
        replace g4152 := g4152.keep Kc184 nin0
        replace O0 := own_oldKeep O0 Kc184 all0
        replace K0 := K0.trans Kc184 all0
        clear Kc184
        show own_GoW p e below s _ _ _ _ (T174.setTop (mkF m 153 #[rv a1, iv (1 : Int32), iv (1 : Int32), iv (-1 : Int32), iv (3 : Int32), iv (2 : Int32), iv (3 : Int32), .unset] [(.ref w175)]))
        exact sg_pd153 hw hO a1 w175 w176 w177 (1 : Int32) (w178 : List Value) (iv (1 : Int32) : Slot) (iv (-1 : Int32) : Slot) (iv (3 : Int32) : Slot) (iv (2 : Int32) : Slot) (iv (3 : Int32) : Slot) (2 : Int32) h0 T174.heap X174 hS hL hJ hx hby hml hret hlk hZ hown hnm (rfl : T174.heap = T174.heap) N0 O0 K0 f180 f181 f182 f183 (by unfold own_Ft; decide : own_Ft (1 : Int32) (1 : Int32)) (by decide : ((1 : Int32) + (1 : Int32)) = (2 : Int32)) (by decide : ¬ ((0 : Int32) < ((2 : Int32) - (16 : Int32)))) (by unfold own_Rg; decide : own_Rg (0 : Int32) (2 : Int32) (16 : Int32)) (by decide : ¬ ((0 : Int32) = (0 : Int32) ∧ (2 : Int32) = (16 : Int32))) (by omega) (by omega)
      · refine own_goW (fun _ k => XS.icmpYes X167.here hx rfl (pc0 := 96) (pc' := 105) rfl (hb hby d11_96) rfl (feq hc170).2 (by decide) (by decide) k) ?_
        show own_GoW p e below s _ _ _ _ (T167.setTop (mkF m 105 #[rv a1, iv (1 : Int32), iv (1 : Int32), iv (-1 : Int32), iv (3 : Int32), iv (1 : Int32), .unset, .unset] []))
        refine own_goW (fun _ k => XS.aloadN X167.here hx rfl (hb hby d11_105) rfl rfl k) ?_
        obtain ⟨v190, T190, L190, X190, hQ190, st190⟩ := own_callV (y := own_y4) (z := own_y4) X167 hx hZ hown (ow114 hw) (ow69 hw) (notFace_of_selects (args := #[]) (mvT hZ (ow71 hw))) (ow71 hw) (ow70 hw) (ow7 hw) (ow72 hw) (rm_slenG l Z a0 hw hO [] a1 t kt (3 : Int32) ([(.int (45 : Int32)), (.int x1), (.int x2)] : List Value) h152 O0 (fp0.keep K0) (g1.keep K0 nin0) (g2.keep K0 nin0) (g3.keep K0 nin0)) 0 0 0 (by show _ ≤ 24; omega) (by show _ ≤ 400; omega) Kc168 (fp0.keep K0) (g := (mkF m 106 #[rv a1, iv (1 : Int32), iv (1 : Int32), iv (-1 : Int32), iv (3 : Int32), iv (1 : Int32), .unset, .unset] [(.ref a1)])) rfl (by rw [hml]; rfl) [] [] (lenOf own_pd_6 rfl) rfl rfl (hb hby d11_106)
        obtain ⟨rfl, Nc192, Kc191⟩ := hQ190
        refine own_goW st190 ?_
        clear st190 X167 Kc168
        replace N0 := Fr.app N0 Nc192
        clear Nc192
        refine own_goW (fun _ k => XS.istore X190.here hx rfl (hb hby d11_109) rfl (l' := #[rv a1, iv (1 : Int32), iv (1 : Int32), iv (-1 : Int32), iv (3 : Int32), iv (1 : Int32), iv (3 : Int32), .unset]) rfl (XS.iload X190.here hx rfl (hb hby d11_111) rfl (XS.iload X190.here hx rfl (hb hby d11_113) rfl (XS.icmpYes X190.here hx rfl (pc0 := 115) (pc' := 145) rfl (hb hby d11_115) rfl (flt (by decide : ¬ ((3 : Int32) < (3 : Int32)))).2.2.2 (by decide) (by decide) (XS.aloadN X190.here hx rfl (hb hby d11_145) rfl rfl (XS.iload X190.here hx rfl (hb hby d11_146) rfl k)))))) ?_
        show own_GoW p e below s _ _ _ _ (T190.setTop (mkF m 148 #[rv a1, iv (1 : Int32), iv (1 : Int32), iv (-1 : Int32), iv (3 : Int32), iv (1 : Int32), iv (3 : Int32), .unset] [(.int (1 : Int32)), (.ref a1)]))
        refine own_goW (fun _ k => XS.iload X190.here hx rfl (hb hby d11_148) rfl k) ?_
        obtain ⟨v193, T193, L193, X193, hQ193, st193⟩ := own_callV (y := own_y28) (z := own_y28) X190 hx hZ hown (ow134 hw) (ow135 hw) (notFace_of_selects (args := #[]) (mvT hZ (ow137 hw))) (ow137 hw) (ow136 hw) (ow7 hw) (ow138 hw) (rm_subG l Z a0 hw hO [] a1 (1 : Int32) (3 : Int32) t kt (3 : Int32) ([(.int (45 : Int32)), (.int x1), (.int x2)] : List Value) (2 : Int32) h152 O0 (fp0.keep K0) (g1.keep K0 nin0) (g2.keep K0 nin0) (g3.keep K0 nin0) (by unfold own_Rg; decide : own_Rg (1 : Int32) (3 : Int32) (3 : Int32)) (by decide : ((3 : Int32) - (1 : Int32)) = (2 : Int32)) (by decide : ¬ ((2 : Int32) = (0 : Int32))) (by unfold own_Rg; decide : own_Rg (1 : Int32) ((1 : Int32) + (2 : Int32)) (3 : Int32)) (by decide : ¬ ((1 : Int32) = (0 : Int32) ∧ (3 : Int32) = (3 : Int32))) (by decide : ¬ ((1 : Int32) = (0 : Int32) ∧ ((1 : Int32) + (2 : Int32)) = (3 : Int32)))) 0 2 20 (by show _ ≤ 24; omega) (by show _ ≤ 400; omega) Kc191 (fp0.keep K0) (g := (mkF m 150 #[rv a1, iv (1 : Int32), iv (1 : Int32), iv (-1 : Int32), iv (3 : Int32), iv (1 : Int32), iv (3 : Int32), .unset] [(.int (3 : Int32)), (.int (1 : Int32)), (.ref a1)])) rfl (by rw [hml]; rfl) [(.int (1 : Int32)), (.int (3 : Int32))] [] (lenOf own_pd_34 rfl) rfl rfl (hb hby d11_150)
        obtain ⟨w194, w195, w196, w197, rfl, Nc204, Kc203, hb198, f199, f200, f201, f202⟩ := hQ193
        refine own_goW st193 ?_
        clear st193 X190 Kc191
        replace N0 := Fr.app N0 Nc204
        clear Nc204
        have ne205 : b152 ≠ w194 := Nat.ne_of_lt (Nat.lt_of_lt_of_le g1152.lt hb198)
        have ne206 : t152 ≠ w194 := Nat.ne_of_lt (Nat.lt_of_lt_of_le g4152.lt hb198)
        have big207 : Z.heap.size ≤ w194 := Nat.le_trans O0.1 hb198
        have sz208 : h0.size ≤ w194 := Nat.le_trans K0.1 hb198
        replace hS := own_since hS Kc203.1
        replace hJ := own_Jkeep hZ hJ Kc203 all0
        replace dt157 := (own_DotK dt157 Kc203)
        replace g1152 := g1152.keep Kc203
        replace g2152 := g2152.keep Kc203 nin0
        replace g3152 := g3152.keep Kc203 nin0
        replace g4152 := g4152.keep Kc203 nin0
        replace O0 := own_oldKeep O0 Kc203 all0
        replace K0 := K0.trans Kc203 all0
        clear Kc203
        show own_GoW p e below s _ _ _ _ (T193.setTop (mkF m 153 #[rv a1, iv (1 : Int32), iv (1 : Int32), iv (-1 : Int32), iv (3 : Int32), iv (1 : Int32), iv (3 : Int32), .unset] [(.ref w194)]))
        exact sg_pd153 hw hO a1 w194 w195 w196 (2 : Int32) (w197 : List Value) (iv (1 : Int32) : Slot) (iv (-1 : Int32) : Slot) (iv (3 : Int32) : Slot) (iv (1 : Int32) : Slot) (iv (3 : Int32) : Slot) (3 : Int32) h0 T193.heap X193 hS hL hJ hx hby hml hret hlk hZ hown hnm (rfl : T193.heap = T193.heap) N0 O0 K0 f199 f200 f201 f202 (by unfold own_Ft; decide : own_Ft (1 : Int32) (2 : Int32)) (by decide : ((1 : Int32) + (2 : Int32)) = (3 : Int32)) (by decide : ¬ ((0 : Int32) < ((3 : Int32) - (16 : Int32)))) (by unfold own_Rg; decide : own_Rg (0 : Int32) (3 : Int32) (16 : Int32)) (by decide : ¬ ((0 : Int32) = (0 : Int32) ∧ (3 : Int32) = (16 : Int32))) (by omega) (by omega)
    · obtain ⟨rfl, Nc211, hp209, Kc210⟩ := hQ153
      refine own_goW st153 ?_
      clear st153 X152 e152
      replace N0 := Fr.app N0 Nc211
      clear Nc211
      exact absurd (by decide : (45 : Int32) = (45 : Int32)) hp209
  · show own_GoW p e below s _ _ _ _ (T.setTop (mkF m 0 #[rv a1, .unset, .unset, .unset, .unset, .unset, .unset, .unset] []))
    show own_GoW p e below s _ _ _ _ (T.setTop (mkF m 0 #[rv a1, .unset, .unset, .unset, .unset, .unset, .unset, .unset] []))
    refine own_goW (fun _ k => XS.aloadN X0.here hx rfl (hb hby d11_0) rfl rfl k) ?_
    obtain ⟨b212, T212, h212, vm212, u212, X212, e212, E212, hSn, hZn, hownn, hJn, li212, tx212, sl212, st212⟩ := own_ldcK X0 hS hx hZ hown hL (List.mem_of_getElem? (i := 2) rfl) (ow57 hw) (own_wS hw) e0 hJ (by decide) (g := (mkF m 1 #[rv a1, .unset, .unset, .unset, .unset, .unset, .unset, .unset] [(.ref a1)])) rfl (hb hby d11_1) (n := 4) (by decide) (by decide) (by show _ ≤ 24; omega) (by show _ ≤ 400; omega)
    refine own_goW st212 ?_
    clear st212 X0 e0
    replace hS := hSn
    replace hZ := hZn
    replace hown := hownn
    replace hJ := hJn
    clear hSn hZn hownn hJn
    replace O0 := own_oldExt O0 E212
    replace K0 := K0.ext E212
    clear E212
    obtain ⟨t212, kt212, g1212, g2212, g3212, g4212⟩ := own_litFacts hZ sl212 tx212 (by decide)
    clear sl212 tx212
    replace g4212 : Arv Z h212 t212 kt212 .byte (1 : Int32) [(.int (45 : Int32))] (.int (0 : Int32)) := g4212
    obtain ⟨v213, T213, L213, X213, hQ213, st213⟩ := own_callV (y := own_y12) (z := own_y12) X212 hx hZ hown (ow58 hw) (ow59 hw) (notFace_of_selects (args := #[]) (mvT hZ (ow61 hw))) (ow61 hw) (ow60 hw) (ow7 hw) (ow62 hw) (rm_sw1G l Z a0 hw hO [] a1 b212 t t212 kt (3 : Int32) ([(.int (46 : Int32)), (.int x2)] : List Value) x0 kt212 (45 : Int32) h212 O0 (fp0.keep K0) (g1.keep K0 nin0) (g2.keep K0 nin0) (g3.keep K0 nin0) g1212 g3212 g2212 g4212 (by decide : (0 : Int32) < (3 : Int32)) (by decide : ¬ (((3 : Int32) - (1 : Int32)) < (0 : Int32)))) 0 0 0 (by show _ ≤ 24; omega) (by show _ ≤ 400; omega) e212 (fp0.keep K0) (g := (mkF m 3 #[rv a1, .unset, .unset, .unset, .unset, .unset, .unset, .unset] [(.ref b212), (.ref a1)])) rfl (by rw [hml]; rfl) [(.ref b212)] [] (lenOf own_pd_31 rfl) rfl rfl (hb hby d11_3)
    rcases hQ213 with hQ213 | hQ213
    · obtain ⟨rfl, Nc216, hp214, Kc215⟩ := hQ213
      refine own_goW st213 ?_
      clear st213 X212 e212
      replace N0 := Fr.app N0 Nc216
      clear Nc216
      exact absurd hp214 hgx0.2.2.2
    · obtain ⟨rfl, Nc219, hp217, Kc218⟩ := hQ213
      refine own_goW st213 ?_
      clear st213 X212 e212
      replace N0 := Fr.app N0 Nc219
      clear Nc219
      show own_GoW p e below s _ _ _ _ (T213.setTop (mkF m 6 #[rv a1, .unset, .unset, .unset, .unset, .unset, .unset, .unset] [(.int (0 : Int32))]))
      refine own_goW (fun _ k => XS.istoreN X213.here hx rfl (hb hby d11_6) rfl (l' := #[rv a1, iv (0 : Int32), .unset, .unset, .unset, .unset, .unset, .unset]) rfl (XS.iloadN X213.here hx rfl (hb hby d11_7) rfl (XS.ifYes X213.here hx rfl (pc0 := 8) (pc' := 15) rfl (hb hby d11_8) rfl ((if0 _ _).trans (teq (by decide : (0 : Int32) = (0 : Int32))).1) (by decide) (by decide) (XS.iconst X213.here hx rfl (hb hby d11_15) (XS.istoreN X213.here hx rfl (hb hby d11_16) rfl (l' := #[rv a1, iv (0 : Int32), iv (0 : Int32), .unset, .unset, .unset, .unset, .unset]) rfl (XS.aloadN X213.here hx rfl (hb hby d11_17) rfl rfl (XS.bipush X213.here hx rfl (hb hby d11_18) k))))))) ?_
      show own_GoW p e below s _ _ _ _ (T213.setTop (mkF m 20 #[rv a1, iv (0 : Int32), iv (0 : Int32), .unset, .unset, .unset, .unset, .unset] [(.int (46 : Int32)), (.ref a1)]))
      have dt220 : own_Dot Z h212 t (3 : Int32) (1 : Int32) := Or.inr (Or.inr (Or.inl ⟨_, _, _, rfl, rfl, (g3.keep K0 nin0), hgx0, hgx2⟩))
      obtain ⟨v221, T221, L221, X221, hQ221, st221⟩ := own_callV (y := own_y19) (z := own_y19) X213 hx hZ hown (ow82 hw) (ow83 hw) (notFace_of_selects (args := #[]) (mvT hZ (ow85 hw))) (ow85 hw) (ow84 hw) (ow7 hw) (ow86 hw) (rm_io1G l Z a0 hw hO [] a1 t kt (3 : Int32) ([(.int x0), (.int (46 : Int32)), (.int x2)] : List Value) (1 : Int32) h212 O0 (fp0.keep K0) (g1.keep K0 nin0) (g2.keep K0 nin0) (g3.keep K0 nin0) dt220 (by decide : (0 : Int32) < (3 : Int32))) 0 0 0 (by show _ ≤ 24; omega) (by show _ ≤ 400; omega) Kc218 (fp0.keep K0) (g := (mkF m 20 #[rv a1, iv (0 : Int32), iv (0 : Int32), .unset, .unset, .unset, .unset, .unset] [(.int (46 : Int32)), (.ref a1)])) rfl (by rw [hml]; rfl) [(.int (46 : Int32))] [] (lenOf own_pd_32 rfl) rfl rfl (hb hby d11_20)
      obtain ⟨rfl, Nc223, Kc222⟩ := hQ221
      refine own_goW st221 ?_
      clear st221 X213 Kc218
      replace N0 := Fr.app N0 Nc223
      clear Nc223
      refine own_goW (fun _ k => XS.istoreN X221.here hx rfl (hb hby d11_23) rfl (l' := #[rv a1, iv (0 : Int32), iv (0 : Int32), iv (1 : Int32), .unset, .unset, .unset, .unset]) rfl (XS.iloadN X221.here hx rfl (hb hby d11_24) rfl (XS.ifYes X221.here hx rfl (pc0 := 25) (pc' := 35) rfl (hb hby d11_25) rfl ((if0 _ _).trans (flt (by decide : ¬ ((1 : Int32) < (0 : Int32)))).2.1) (by decide) (by decide) (XS.iloadN X221.here hx rfl (hb hby d11_35) rfl (XS.istore X221.here hx rfl (hb hby d11_36) rfl (l' := #[rv a1, iv (0 : Int32), iv (0 : Int32), iv (1 : Int32), iv (1 : Int32), .unset, .unset, .unset]) rfl (XS.aloadN X221.here hx rfl (hb hby d11_38) rfl rfl (XS.iloadN X221.here hx rfl (hb hby d11_39) rfl k))))))) ?_
      show own_GoW p e below s _ _ _ _ (T221.setTop (mkF m 40 #[rv a1, iv (0 : Int32), iv (0 : Int32), iv (1 : Int32), iv (1 : Int32), .unset, .unset, .unset] [(.int (0 : Int32)), (.ref a1)]))
      refine own_goW (fun _ k => XS.iload X221.here hx rfl (hb hby d11_40) rfl k) ?_
      obtain ⟨v224, T224, L224, X224, hQ224, st224⟩ := own_callS (y := own_y20) X221 hx hZ hown (ow115 hw) (ow116 hw) (ow37 hw) (ow117 hw) (rm_dig_3_0_1 l Z a0 hw hO [] a1 t kt x0 (46 : Int32) x2 h212 O0 (fp0.keep K0) (g1.keep K0 nin0) (g2.keep K0 nin0) (g3.keep K0 nin0) hgx0) 0 0 0 (by show _ ≤ 24; omega) (by show _ ≤ 400; omega) Kc222 (g := (mkF m 42 #[rv a1, iv (0 : Int32), iv (0 : Int32), iv (1 : Int32), iv (1 : Int32), .unset, .unset, .unset] [(.int (1 : Int32)), (.int (0 : Int32)), (.ref a1)])) rfl (by rw [hml]; rfl) [(.ref a1), (.int (0 : Int32)), (.int (1 : Int32))] [] (lenOf own_pd_33 rfl) rfl rfl (hb hby d11_42)
      obtain ⟨rfl, Nc226, Kc225⟩ := hQ224
      refine own_goW st224 ?_
      clear st224 X221 Kc222
      replace N0 := Fr.app N0 Nc226
      clear Nc226
      refine own_goW (fun _ k => XS.ifNo X224.here hx rfl (hb hby d11_45) rfl ((if0 _ _).trans (feq (by decide : ¬ ((1 : Int32) = (0 : Int32)))).1) (XS.iloadN X224.here hx rfl (hb hby d11_48) rfl (XS.ifNo X224.here hx rfl (hb hby d11_49) rfl ((if0 _ _).trans (flt (by decide : ¬ ((1 : Int32) < (0 : Int32)))).1) (XS.aloadN X224.here hx rfl (hb hby d11_52) rfl rfl (XS.iloadN X224.here hx rfl (hb hby d11_53) rfl (XS.iconst X224.here hx rfl (hb hby d11_54) k)))))) ?_
      show own_GoW p e below s _ _ _ _ (T224.setTop (mkF m 55 #[rv a1, iv (0 : Int32), iv (0 : Int32), iv (1 : Int32), iv (1 : Int32), .unset, .unset, .unset] [(.int (1 : Int32)), (.int (1 : Int32)), (.ref a1)]))
      refine own_goW (fun _ k => XS.iadd X224.here hx rfl (hb hby d11_55) rfl (XS.aloadN X224.here hx rfl (hb hby d11_56) rfl rfl k)) ?_
      obtain ⟨v227, T227, L227, X227, hQ227, st227⟩ := own_callV (y := own_y4) (z := own_y4) X224 hx hZ hown (ow114 hw) (ow69 hw) (notFace_of_selects (args := #[]) (mvT hZ (ow71 hw))) (ow71 hw) (ow70 hw) (ow7 hw) (ow72 hw) (rm_slenG l Z a0 hw hO [] a1 t kt (3 : Int32) ([(.int x0), (.int (46 : Int32)), (.int x2)] : List Value) h212 O0 (fp0.keep K0) (g1.keep K0 nin0) (g2.keep K0 nin0) (g3.keep K0 nin0)) 2 0 0 (by show _ ≤ 24; omega) (by show _ ≤ 400; omega) Kc225 (fp0.keep K0) (g := (mkF m 57 #[rv a1, iv (0 : Int32), iv (0 : Int32), iv (1 : Int32), iv (1 : Int32), .unset, .unset, .unset] [(.ref a1), (.int (2 : Int32)), (.ref a1)])) rfl (by rw [hml]; rfl) [] [(.int (2 : Int32)), (.ref a1)] (lenOf own_pd_6 rfl) rfl rfl (hb hby d11_57)
      obtain ⟨rfl, Nc229, Kc228⟩ := hQ227
      refine own_goW st227 ?_
      clear st227 X224 Kc225
      replace N0 := Fr.app N0 Nc229
      clear Nc229
      obtain ⟨v230, T230, L230, X230, hQ230, st230⟩ := own_callS (y := own_y20) X227 hx hZ hown (ow115 hw) (ow116 hw) (ow37 hw) (ow117 hw) (rm_dig_3_2_3 l Z a0 hw hO [] a1 t kt x0 (46 : Int32) x2 h212 O0 (fp0.keep K0) (g1.keep K0 nin0) (g2.keep K0 nin0) (g3.keep K0 nin0) hgx2) 0 0 0 (by show _ ≤ 24; omega) (by show _ ≤ 400; omega) Kc228 (g := (mkF m 60 #[rv a1, iv (0 : Int32), iv (0 : Int32), iv (1 : Int32), iv (1 : Int32), .unset, .unset, .unset] [(.int (3 : Int32)), (.int (2 : Int32)), (.ref a1)])) rfl (by rw [hml]; rfl) [(.ref a1), (.int (2 : Int32)), (.int (3 : Int32))] [] (lenOf own_pd_33 rfl) rfl rfl (hb hby d11_60)
      obtain ⟨rfl, Nc232, Kc231⟩ := hQ230
      refine own_goW st230 ?_
      clear st230 X227 Kc228
      replace N0 := Fr.app N0 Nc232
      clear Nc232
      refine own_goW (fun _ k => XS.ifYes X230.here hx rfl (pc0 := 63) (pc' := 76) rfl (hb hby d11_63) rfl ((if0 _ _).trans (feq (by decide : ¬ ((1 : Int32) = (0 : Int32)))).2) (by decide) (by decide) (XS.iloadN X230.here hx rfl (hb hby d11_76) rfl (XS.istore X230.here hx rfl (hb hby d11_77) rfl (l' := #[rv a1, iv (0 : Int32), iv (0 : Int32), iv (1 : Int32), iv (1 : Int32), iv (0 : Int32), .unset, .unset]) rfl (XS.iload X230.here hx rfl (hb hby d11_79) rfl k)))) ?_
      show own_GoW p e below s _ _ _ _ (T230.setTop (mkF m 81 #[rv a1, iv (0 : Int32), iv (0 : Int32), iv (1 : Int32), iv (1 : Int32), iv (0 : Int32), .unset, .unset] [(.int (0 : Int32))]))
      refine own_goW (fun _ k => XS.iload X230.here hx rfl (hb hby d11_81) rfl (XS.iconst X230.here hx rfl (hb hby d11_83) (XS.isub X230.here hx rfl (hb hby d11_84) rfl (XS.icmpYes X230.here hx rfl (pc0 := 85) (pc' := 105) rfl (hb hby d11_85) rfl (flt (by decide : ¬ ((0 : Int32) < (0 : Int32)))).2.1 (by decide) (by decide) (XS.aloadN X230.here hx rfl (hb hby d11_105) rfl rfl k))))) ?_
      obtain ⟨v233, T233, L233, X233, hQ233, st233⟩ := own_callV (y := own_y4) (z := own_y4) X230 hx hZ hown (ow114 hw) (ow69 hw) (notFace_of_selects (args := #[]) (mvT hZ (ow71 hw))) (ow71 hw) (ow70 hw) (ow7 hw) (ow72 hw) (rm_slenG l Z a0 hw hO [] a1 t kt (3 : Int32) ([(.int x0), (.int (46 : Int32)), (.int x2)] : List Value) h212 O0 (fp0.keep K0) (g1.keep K0 nin0) (g2.keep K0 nin0) (g3.keep K0 nin0)) 0 0 0 (by show _ ≤ 24; omega) (by show _ ≤ 400; omega) Kc231 (fp0.keep K0) (g := (mkF m 106 #[rv a1, iv (0 : Int32), iv (0 : Int32), iv (1 : Int32), iv (1 : Int32), iv (0 : Int32), .unset, .unset] [(.ref a1)])) rfl (by rw [hml]; rfl) [] [] (lenOf own_pd_6 rfl) rfl rfl (hb hby d11_106)
      obtain ⟨rfl, Nc235, Kc234⟩ := hQ233
      refine own_goW st233 ?_
      clear st233 X230 Kc231
      replace N0 := Fr.app N0 Nc235
      clear Nc235
      refine own_goW (fun _ k => XS.istore X233.here hx rfl (hb hby d11_109) rfl (l' := #[rv a1, iv (0 : Int32), iv (0 : Int32), iv (1 : Int32), iv (1 : Int32), iv (0 : Int32), iv (3 : Int32), .unset]) rfl (XS.iload X233.here hx rfl (hb hby d11_111) rfl k)) ?_
      show own_GoW p e below s _ _ _ _ (T233.setTop (mkF m 113 #[rv a1, iv (0 : Int32), iv (0 : Int32), iv (1 : Int32), iv (1 : Int32), iv (0 : Int32), iv (3 : Int32), .unset] [(.int (3 : Int32))]))
      refine own_goW (fun _ k => XS.iload X233.here hx rfl (hb hby d11_113) rfl (XS.icmpNo X233.here hx rfl (hb hby d11_115) rfl (tlt (by decide : (1 : Int32) < (3 : Int32))).2.2.2 (XS.aloadN X233.here hx rfl (hb hby d11_118) rfl rfl (XS.iload X233.here hx rfl (hb hby d11_119) rfl (XS.iconst X233.here hx rfl (hb hby d11_121) (XS.isub X233.here hx rfl (hb hby d11_122) rfl k)))))) ?_
      obtain ⟨v236, T236, L236, X236, hQ236, st236⟩ := own_callV (y := own_y9) (z := own_y9) X233 hx hZ hown (ow118 hw) (ow119 hw) (notFace_of_selects (args := #[]) (mvT hZ (ow121 hw))) (ow121 hw) (ow120 hw) (ow7 hw) (ow122 hw) (rm_ch_2 l Z a0 hw hO [] a1 t kt (3 : Int32) ([] : List Value) x0 (46 : Int32) x2 h212 O0 (fp0.keep K0) (g1.keep K0 nin0) (g2.keep K0 nin0) (g3.keep K0 nin0) (by decide : (2 : Int32) < (3 : Int32))) 0 0 0 (by show _ ≤ 24; omega) (by show _ ≤ 400; omega) Kc234 (fp0.keep K0) (g := (mkF m 123 #[rv a1, iv (0 : Int32), iv (0 : Int32), iv (1 : Int32), iv (1 : Int32), iv (0 : Int32), iv (3 : Int32), .unset] [(.int (2 : Int32)), (.ref a1)])) rfl (by rw [hml]; rfl) [(.int (2 : Int32))] [] (lenOf own_pd_12 rfl) rfl rfl (hb hby d11_123)
      obtain ⟨rfl, Nc238, Kc237⟩ := hQ236
      refine own_goW st236 ?_
      clear st236 X233 Kc234
      replace N0 := Fr.app N0 Nc238
      clear Nc238
      refine own_goW (fun _ k => XS.bipush X236.here hx rfl (hb hby d11_126) k) ?_
      show own_GoW p e below s _ _ _ _ (T236.setTop (mkF m 128 #[rv a1, iv (0 : Int32), iv (0 : Int32), iv (1 : Int32), iv (1 : Int32), iv (0 : Int32), iv (3 : Int32), .unset] [(.int (48 : Int32)), (.int (x2 &&& (255 : Int32)))]))
      by_cases hc239 : (x2 &&& (255 : Int32)) = (48 : Int32)
      · refine own_goW (fun _ k => XS.icmpYes X236.here hx rfl (pc0 := 128) (pc' := 139) rfl (hb hby d11_128) rfl (teq hc239).1 (by decide) (by decide) k) ?_
        show own_GoW p e below s _ _ _ _ (T236.setTop (mkF m 139 #[rv a1, iv (0 : Int32), iv (0 : Int32), iv (1 : Int32), iv (1 : Int32), iv (0 : Int32), iv (3 : Int32), .unset] []))
        refine own_goW (fun _ k => XS.iinc X236.here hx rfl (hb hby d11_139) rfl (l' := #[rv a1, iv (0 : Int32), iv (0 : Int32), iv (1 : Int32), iv (1 : Int32), iv (0 : Int32), iv (2 : Int32), .unset]) rfl (XS.goto X236.here hx rfl (pc0 := 142) (pc' := 111) rfl (hb hby d11_142) (by decide) (by decide) (XS.iload X236.here hx rfl (hb hby d11_111) rfl (XS.iload X236.here hx rfl (hb hby d11_113) rfl (XS.icmpNo X236.here hx rfl (hb hby d11_115) rfl (tlt (by decide : (1 : Int32) < (2 : Int32))).2.2.2 (XS.aloadN X236.here hx rfl (hb hby d11_118) rfl rfl (XS.iload X236.here hx rfl (hb hby d11_119) rfl (XS.iconst X236.here hx rfl (hb hby d11_121) k)))))))) ?_
        show own_GoW p e below s _ _ _ _ (T236.setTop (mkF m 122 #[rv a1, iv (0 : Int32), iv (0 : Int32), iv (1 : Int32), iv (1 : Int32), iv (0 : Int32), iv (2 : Int32), .unset] [(.int (1 : Int32)), (.int (2 : Int32)), (.ref a1)]))
        refine own_goW (fun _ k => XS.isub X236.here hx rfl (hb hby d11_122) rfl k) ?_
        obtain ⟨v240, T240, L240, X240, hQ240, st240⟩ := own_callV (y := own_y9) (z := own_y9) X236 hx hZ hown (ow118 hw) (ow119 hw) (notFace_of_selects (args := #[]) (mvT hZ (ow121 hw))) (ow121 hw) (ow120 hw) (ow7 hw) (ow122 hw) (rm_ch_1 l Z a0 hw hO [] a1 t kt (3 : Int32) ([(.int x2)] : List Value) x0 (46 : Int32) h212 O0 (fp0.keep K0) (g1.keep K0 nin0) (g2.keep K0 nin0) (g3.keep K0 nin0) (by decide : (1 : Int32) < (3 : Int32))) 0 0 0 (by show _ ≤ 24; omega) (by show _ ≤ 400; omega) Kc237 (fp0.keep K0) (g := (mkF m 123 #[rv a1, iv (0 : Int32), iv (0 : Int32), iv (1 : Int32), iv (1 : Int32), iv (0 : Int32), iv (2 : Int32), .unset] [(.int (1 : Int32)), (.ref a1)])) rfl (by rw [hml]; rfl) [(.int (1 : Int32))] [] (lenOf own_pd_12 rfl) rfl rfl (hb hby d11_123)
        obtain ⟨rfl, Nc242, Kc241⟩ := hQ240
        refine own_goW st240 ?_
        clear st240 X236 Kc237
        replace N0 := Fr.app N0 Nc242
        clear Nc242
        refine own_goW (fun _ k => XS.bipush X240.here hx rfl (hb hby d11_126) k) ?_
        by_cases hc243 : ((46 : Int32) &&& (255 : Int32)) = (48 : Int32)
        · refine own_goW (fun _ k => XS.icmpYes X240.here hx rfl (pc0 := 128) (pc' := 139) rfl (hb hby d11_128) rfl (teq hc243).1 (by decide) (by decide) k) ?_
          show own_GoW p e below s _ _ _ _ (T240.setTop (mkF m 139 #[rv a1, iv (0 : Int32), iv (0 : Int32), iv (1 : Int32), iv (1 : Int32), iv (0 : Int32), iv (2 : Int32), .unset] []))
          refine own_goW (fun _ k => XS.iinc X240.here hx rfl (hb hby d11_139) rfl (l' := #[rv a1, iv (0 : Int32), iv (0 : Int32), iv (1 : Int32), iv (1 : Int32), iv (0 : Int32), iv (1 : Int32), .unset]) rfl (XS.goto X240.here hx rfl (pc0 := 142) (pc' := 111) rfl (hb hby d11_142) (by decide) (by decide) (XS.iload X240.here hx rfl (hb hby d11_111) rfl (XS.iload X240.here hx rfl (hb hby d11_113) rfl (XS.icmpYes X240.here hx rfl (pc0 := 115) (pc' := 145) rfl (hb hby d11_115) rfl (flt (by decide : ¬ ((1 : Int32) < (1 : Int32)))).2.2.2 (by decide) (by decide) (XS.aloadN X240.here hx rfl (hb hby d11_145) rfl rfl (XS.iload X240.here hx rfl (hb hby d11_146) rfl (XS.iload X240.here hx rfl (hb hby d11_148) rfl k)))))))) ?_
          show own_GoW p e below s _ _ _ _ (T240.setTop (mkF m 150 #[rv a1, iv (0 : Int32), iv (0 : Int32), iv (1 : Int32), iv (1 : Int32), iv (0 : Int32), iv (1 : Int32), .unset] [(.int (1 : Int32)), (.int (0 : Int32)), (.ref a1)]))
          obtain ⟨v244, T244, L244, X244, hQ244, st244⟩ := own_callV (y := own_y28) (z := own_y28) X240 hx hZ hown (ow134 hw) (ow135 hw) (notFace_of_selects (args := #[]) (mvT hZ (ow137 hw))) (ow137 hw) (ow136 hw) (ow7 hw) (ow138 hw) (rm_subG l Z a0 hw hO [] a1 (0 : Int32) (1 : Int32) t kt (3 : Int32) ([(.int x0), (.int (46 : Int32)), (.int x2)] : List Value) (1 : Int32) h212 O0 (fp0.keep K0) (g1.keep K0 nin0) (g2.keep K0 nin0) (g3.keep K0 nin0) (by unfold own_Rg; decide : own_Rg (0 : Int32) (1 : Int32) (3 : Int32)) (by decide : ((1 : Int32) - (0 : Int32)) = (1 : Int32)) (by decide : ¬ ((1 : Int32) = (0 : Int32))) (by unfold own_Rg; decide : own_Rg (0 : Int32) ((0 : Int32) + (1 : Int32)) (3 : Int32)) (by decide : ¬ ((0 : Int32) = (0 : Int32) ∧ (1 : Int32) = (3 : Int32))) (by decide : ¬ ((0 : Int32) = (0 : Int32) ∧ ((0 : Int32) + (1 : Int32)) = (3 : Int32)))) 0 2 20 (by show _ ≤ 24; omega) (by show _ ≤ 400; omega) Kc241 (fp0.keep K0) (g := (mkF m 150 #[rv a1, iv (0 : Int32), iv (0 : Int32), iv (1 : Int32), iv (1 : Int32), iv (0 : Int32), iv (1 : Int32), .unset] [(.int (1 : Int32)), (.int (0 : Int32)), (.ref a1)])) rfl (by rw [hml]; rfl) [(.int (0 : Int32)), (.int (1 : Int32))] [] (lenOf own_pd_34 rfl) rfl rfl (hb hby d11_150)
          obtain ⟨w245, w246, w247, w248, rfl, Nc255, Kc254, hb249, f250, f251, f252, f253⟩ := hQ244
          refine own_goW st244 ?_
          clear st244 X240 Kc241
          replace N0 := Fr.app N0 Nc255
          clear Nc255
          have ne256 : b212 ≠ w245 := Nat.ne_of_lt (Nat.lt_of_lt_of_le g1212.lt hb249)
          have ne257 : t212 ≠ w245 := Nat.ne_of_lt (Nat.lt_of_lt_of_le g4212.lt hb249)
          have big258 : Z.heap.size ≤ w245 := Nat.le_trans O0.1 hb249
          have sz259 : h0.size ≤ w245 := Nat.le_trans K0.1 hb249
          replace hS := own_since hS Kc254.1
          replace hJ := own_Jkeep hZ hJ Kc254 all0
          replace dt220 := (own_DotK dt220 Kc254)
          replace g1212 := g1212.keep Kc254
          replace g2212 := g2212.keep Kc254 nin0
          replace g3212 := g3212.keep Kc254 nin0
          replace g4212 := g4212.keep Kc254 nin0
          replace O0 := own_oldKeep O0 Kc254 all0
          replace K0 := K0.trans Kc254 all0
          clear Kc254
          show own_GoW p e below s _ _ _ _ (T244.setTop (mkF m 153 #[rv a1, iv (0 : Int32), iv (0 : Int32), iv (1 : Int32), iv (1 : Int32), iv (0 : Int32), iv (1 : Int32), .unset] [(.ref w245)]))
          refine own_goW (fun _ k => XS.astore X244.here hx rfl (hb hby d11_153) rfl rfl (l' := #[rv a1, iv (0 : Int32), iv (0 : Int32), iv (1 : Int32), iv (1 : Int32), iv (0 : Int32), iv (1 : Int32), rv w245]) rfl (XS.iloadN X244.here hx rfl (hb hby d11_155) rfl (XS.ifYes X244.here hx rfl (pc0 := 156) (pc' := 192) rfl (hb hby d11_156) rfl ((if0 _ _).trans (teq (by decide : (0 : Int32) = (0 : Int32))).1) (by decide) (by decide) (XS.aload X244.here hx rfl (hb hby d11_192) rfl rfl k)))) ?_
          show own_GoW p e below s _ _ _ _ (T244.setTop (mkF m 194 #[rv a1, iv (0 : Int32), iv (0 : Int32), iv (1 : Int32), iv (1 : Int32), iv (0 : Int32), iv (1 : Int32), rv w245] [(.ref w245)]))
          refine own_retAW X244 hS hL hZ hJ hx hlk (rfl : T244.heap = T244.heap) hret rfl rfl (hb hby d11_194) (by show _ ≤ 24; omega) (by show _ ≤ 400; omega) ?_
          exact ⟨w245, rfl, N0, K0, f250⟩
        · refine own_goW (fun _ k => XS.icmpNo X240.here hx rfl (hb hby d11_128) rfl (feq hc243).1 k) ?_
          show own_GoW p e below s _ _ _ _ (T240.setTop (mkF m 131 #[rv a1, iv (0 : Int32), iv (0 : Int32), iv (1 : Int32), iv (1 : Int32), iv (0 : Int32), iv (2 : Int32), .unset] []))
          refine own_goW (fun _ k => XS.iload X240.here hx rfl (hb hby d11_131) rfl (XS.iconst X240.here hx rfl (hb hby d11_133) (XS.isub X240.here hx rfl (hb hby d11_134) rfl (XS.iloadN X240.here hx rfl (hb hby d11_135) rfl (XS.icmpNo X240.here hx rfl (hb hby d11_136) rfl (teq (by decide : (1 : Int32) = (1 : Int32))).2 (XS.iinc X240.here hx rfl (hb hby d11_139) rfl (l' := #[rv a1, iv (0 : Int32), iv (0 : Int32), iv (1 : Int32), iv (1 : Int32), iv (0 : Int32), iv (1 : Int32), .unset]) rfl (XS.goto X240.here hx rfl (pc0 := 142) (pc' := 111) rfl (hb hby d11_142) (by decide) (by decide) (XS.iload X240.here hx rfl (hb hby d11_111) rfl k)))))))) ?_
          show own_GoW p e below s _ _ _ _ (T240.setTop (mkF m 113 #[rv a1, iv (0 : Int32), iv (0 : Int32), iv (1 : Int32), iv (1 : Int32), iv (0 : Int32), iv (1 : Int32), .unset] [(.int (1 : Int32))]))
          refine own_goW (fun _ k => XS.iload X240.here hx rfl (hb hby d11_113) rfl (XS.icmpYes X240.here hx rfl (pc0 := 115) (pc' := 145) rfl (hb hby d11_115) rfl (flt (by decide : ¬ ((1 : Int32) < (1 : Int32)))).2.2.2 (by decide) (by decide) (XS.aloadN X240.here hx rfl (hb hby d11_145) rfl rfl (XS.iload X240.here hx rfl (hb hby d11_146) rfl (XS.iload X240.here hx rfl (hb hby d11_148) rfl k))))) ?_
          obtain ⟨v260, T260, L260, X260, hQ260, st260⟩ := own_callV (y := own_y28) (z := own_y28) X240 hx hZ hown (ow134 hw) (ow135 hw) (notFace_of_selects (args := #[]) (mvT hZ (ow137 hw))) (ow137 hw) (ow136 hw) (ow7 hw) (ow138 hw) (rm_subG l Z a0 hw hO [] a1 (0 : Int32) (1 : Int32) t kt (3 : Int32) ([(.int x0), (.int (46 : Int32)), (.int x2)] : List Value) (1 : Int32) h212 O0 (fp0.keep K0) (g1.keep K0 nin0) (g2.keep K0 nin0) (g3.keep K0 nin0) (by unfold own_Rg; decide : own_Rg (0 : Int32) (1 : Int32) (3 : Int32)) (by decide : ((1 : Int32) - (0 : Int32)) = (1 : Int32)) (by decide : ¬ ((1 : Int32) = (0 : Int32))) (by unfold own_Rg; decide : own_Rg (0 : Int32) ((0 : Int32) + (1 : Int32)) (3 : Int32)) (by decide : ¬ ((0 : Int32) = (0 : Int32) ∧ (1 : Int32) = (3 : Int32))) (by decide : ¬ ((0 : Int32) = (0 : Int32) ∧ ((0 : Int32) + (1 : Int32)) = (3 : Int32)))) 0 2 20 (by show _ ≤ 24; omega) (by show _ ≤ 400; omega) Kc241 (fp0.keep K0) (g := (mkF m 150 #[rv a1, iv (0 : Int32), iv (0 : Int32), iv (1 : Int32), iv (1 : Int32), iv (0 : Int32), iv (1 : Int32), .unset] [(.int (1 : Int32)), (.int (0 : Int32)), (.ref a1)])) rfl (by rw [hml]; rfl) [(.int (0 : Int32)), (.int (1 : Int32))] [] (lenOf own_pd_34 rfl) rfl rfl (hb hby d11_150)
          obtain ⟨w261, w262, w263, w264, rfl, Nc271, Kc270, hb265, f266, f267, f268, f269⟩ := hQ260
          refine own_goW st260 ?_
          clear st260 X240 Kc241
          replace N0 := Fr.app N0 Nc271
          clear Nc271
          have ne272 : b212 ≠ w261 := Nat.ne_of_lt (Nat.lt_of_lt_of_le g1212.lt hb265)
          have ne273 : t212 ≠ w261 := Nat.ne_of_lt (Nat.lt_of_lt_of_le g4212.lt hb265)
          have big274 : Z.heap.size ≤ w261 := Nat.le_trans O0.1 hb265
          have sz275 : h0.size ≤ w261 := Nat.le_trans K0.1 hb265
          replace hS := own_since hS Kc270.1
          replace hJ := own_Jkeep hZ hJ Kc270 all0
          replace dt220 := (own_DotK dt220 Kc270)
          replace g1212 := g1212.keep Kc270
          replace g2212 := g2212.keep Kc270 nin0
          replace g3212 := g3212.keep Kc270 nin0
          replace g4212 := g4212.keep Kc270 nin0
          replace O0 := own_oldKeep O0 Kc270 all0
          replace K0 := K0.trans Kc270 all0
          clear Kc270
          show own_GoW p e below s _ _ _ _ (T260.setTop (mkF m 153 #[rv a1, iv (0 : Int32), iv (0 : Int32), iv (1 : Int32), iv (1 : Int32), iv (0 : Int32), iv (1 : Int32), .unset] [(.ref w261)]))
          refine own_goW (fun _ k => XS.astore X260.here hx rfl (hb hby d11_153) rfl rfl (l' := #[rv a1, iv (0 : Int32), iv (0 : Int32), iv (1 : Int32), iv (1 : Int32), iv (0 : Int32), iv (1 : Int32), rv w261]) rfl (XS.iloadN X260.here hx rfl (hb hby d11_155) rfl (XS.ifYes X260.here hx rfl (pc0 := 156) (pc' := 192) rfl (hb hby d11_156) rfl ((if0 _ _).trans (teq (by decide : (0 : Int32) = (0 : Int32))).1) (by decide) (by decide) (XS.aload X260.here hx rfl (hb hby d11_192) rfl rfl k)))) ?_
          show own_GoW p e below s _ _ _ _ (T260.setTop (mkF m 194 #[rv a1, iv (0 : Int32), iv (0 : Int32), iv (1 : Int32), iv (1 : Int32), iv (0 : Int32), iv (1 : Int32), rv w261] [(.ref w261)]))
          refine own_retAW X260 hS hL hZ hJ hx hlk (rfl : T260.heap = T260.heap) hret rfl rfl (hb hby d11_194) (by show _ ≤ 24; omega) (by show _ ≤ 400; omega) ?_
          exact ⟨w261, rfl, N0, K0, f266⟩
      · refine own_goW (fun _ k => XS.icmpNo X236.here hx rfl (hb hby d11_128) rfl (feq hc239).1 k) ?_
        show own_GoW p e below s _ _ _ _ (T236.setTop (mkF m 131 #[rv a1, iv (0 : Int32), iv (0 : Int32), iv (1 : Int32), iv (1 : Int32), iv (0 : Int32), iv (3 : Int32), .unset] []))
        refine own_goW (fun _ k => XS.iload X236.here hx rfl (hb hby d11_131) rfl (XS.iconst X236.here hx rfl (hb hby d11_133) (XS.isub X236.here hx rfl (hb hby d11_134) rfl (XS.iloadN X236.here hx rfl (hb hby d11_135) rfl (XS.icmpYes X236.here hx rfl (pc0 := 136) (pc' := 145) rfl (hb hby d11_136) rfl (feq (by decide : ¬ ((2 : Int32) = (1 : Int32)))).2 (by decide) (by decide) (XS.aloadN X236.here hx rfl (hb hby d11_145) rfl rfl (XS.iload X236.here hx rfl (hb hby d11_146) rfl (XS.iload X236.here hx rfl (hb hby d11_148) rfl k)))))))) ?_
        show own_GoW p e below s _ _ _ _ (T236.setTop (mkF m 150 #[rv a1, iv (0 : Int32), iv (0 : Int32), iv (1 : Int32), iv (1 : Int32), iv (0 : Int32), iv (3 : Int32), .unset] [(.int (3 : Int32)), (.int (0 : Int32)), (.ref a1)]))
        obtain ⟨v276, T276, L276, X276, hQ276, st276⟩ := own_callV (y := own_y28) (z := own_y28) X236 hx hZ hown (ow134 hw) (ow135 hw) (notFace_of_selects (args := #[]) (mvT hZ (ow137 hw))) (ow137 hw) (ow136 hw) (ow7 hw) (ow138 hw) (rm_subS l Z a0 hw hO [] a1 (3 : Int32) t kt (3 : Int32) ([(.int x0), (.int (46 : Int32)), (.int x2)] : List Value) h212 O0 (fp0.keep K0) (g1.keep K0 nin0) (g2.keep K0 nin0) (g3.keep K0 nin0) (by decide : (3 : Int32) = (3 : Int32)) (by decide : ¬ ((3 : Int32) < (0 : Int32))) (by decide : ¬ ((3 : Int32) < (3 : Int32)))) 0 0 0 (by show _ ≤ 24; omega) (by show _ ≤ 400; omega) Kc237 (fp0.keep K0) (g := (mkF m 150 #[rv a1, iv (0 : Int32), iv (0 : Int32), iv (1 : Int32), iv (1 : Int32), iv (0 : Int32), iv (3 : Int32), .unset] [(.int (3 : Int32)), (.int (0 : Int32)), (.ref a1)])) rfl (by rw [hml]; rfl) [(.int (0 : Int32)), (.int (3 : Int32))] [] (lenOf own_pd_34 rfl) rfl rfl (hb hby d11_150)
        obtain ⟨rfl, Nc278, Kc277⟩ := hQ276
        refine own_goW st276 ?_
        clear st276 X236 Kc237
        replace N0 := Fr.app N0 Nc278
        clear Nc278
        show own_GoW p e below s _ _ _ _ (T276.setTop (mkF m 153 #[rv a1, iv (0 : Int32), iv (0 : Int32), iv (1 : Int32), iv (1 : Int32), iv (0 : Int32), iv (3 : Int32), .unset] [(.ref a1)]))
        refine own_goW (fun _ k => XS.astore X276.here hx rfl (hb hby d11_153) rfl rfl (l' := #[rv a1, iv (0 : Int32), iv (0 : Int32), iv (1 : Int32), iv (1 : Int32), iv (0 : Int32), iv (3 : Int32), rv a1]) rfl (XS.iloadN X276.here hx rfl (hb hby d11_155) rfl (XS.ifYes X276.here hx rfl (pc0 := 156) (pc' := 192) rfl (hb hby d11_156) rfl ((if0 _ _).trans (teq (by decide : (0 : Int32) = (0 : Int32))).1) (by decide) (by decide) (XS.aload X276.here hx rfl (hb hby d11_192) rfl rfl k)))) ?_
        show own_GoW p e below s _ _ _ _ (T276.setTop (mkF m 194 #[rv a1, iv (0 : Int32), iv (0 : Int32), iv (1 : Int32), iv (1 : Int32), iv (0 : Int32), iv (3 : Int32), rv a1] [(.ref a1)]))
        refine own_retAW X276 hS hL hZ hJ hx hlk Kc277 hret rfl rfl (hb hby d11_194) (by show _ ≤ 24; omega) (by show _ ≤ 400; omega) ?_
        exact ⟨a1, rfl, N0, K0, (fp0.keep K0)⟩
  · show own_GoW p e below s _ _ _ _ (T.setTop (mkF m 0 #[rv a1, .unset, .unset, .unset, .unset, .unset, .unset, .unset] []))
    show own_GoW p e below s _ _ _ _ (T.setTop (mkF m 0 #[rv a1, .unset, .unset, .unset, .unset, .unset, .unset, .unset] []))
    refine own_goW (fun _ k => XS.aloadN X0.here hx rfl (hb hby d11_0) rfl rfl k) ?_
    obtain ⟨b279, T279, h279, vm279, u279, X279, e279, E279, hSn, hZn, hownn, hJn, li279, tx279, sl279, st279⟩ := own_ldcK X0 hS hx hZ hown hL (List.mem_of_getElem? (i := 2) rfl) (ow57 hw) (own_wS hw) e0 hJ (by decide) (g := (mkF m 1 #[rv a1, .unset, .unset, .unset, .unset, .unset, .unset, .unset] [(.ref a1)])) rfl (hb hby d11_1) (n := 4) (by decide) (by decide) (by show _ ≤ 24; omega) (by show _ ≤ 400; omega)
    refine own_goW st279 ?_
    clear st279 X0 e0
    replace hS := hSn
    replace hZ := hZn
    replace hown := hownn
    replace hJ := hJn
    clear hSn hZn hownn hJn
    replace O0 := own_oldExt O0 E279
    replace K0 := K0.ext E279
    clear E279
    obtain ⟨t279, kt279, g1279, g2279, g3279, g4279⟩ := own_litFacts hZ sl279 tx279 (by decide)
    clear sl279 tx279
    replace g4279 : Arv Z h279 t279 kt279 .byte (1 : Int32) [(.int (45 : Int32))] (.int (0 : Int32)) := g4279
    obtain ⟨v280, T280, L280, X280, hQ280, st280⟩ := own_callV (y := own_y12) (z := own_y12) X279 hx hZ hown (ow58 hw) (ow59 hw) (notFace_of_selects (args := #[]) (mvT hZ (ow61 hw))) (ow61 hw) (ow60 hw) (ow7 hw) (ow62 hw) (rm_sw1G l Z a0 hw hO [] a1 b279 t t279 kt (2 : Int32) ([(.int x1)] : List Value) x0 kt279 (45 : Int32) h279 O0 (fp0.keep K0) (g1.keep K0 nin0) (g2.keep K0 nin0) (g3.keep K0 nin0) g1279 g3279 g2279 g4279 (by decide : (0 : Int32) < (2 : Int32)) (by decide : ¬ (((2 : Int32) - (1 : Int32)) < (0 : Int32)))) 0 0 0 (by show _ ≤ 24; omega) (by show _ ≤ 400; omega) e279 (fp0.keep K0) (g := (mkF m 3 #[rv a1, .unset, .unset, .unset, .unset, .unset, .unset, .unset] [(.ref b279), (.ref a1)])) rfl (by rw [hml]; rfl) [(.ref b279)] [] (lenOf own_pd_31 rfl) rfl rfl (hb hby d11_3)
    rcases hQ280 with hQ280 | hQ280
    · obtain ⟨rfl, Nc283, hp281, Kc282⟩ := hQ280
      refine own_goW st280 ?_
      clear st280 X279 e279
      replace N0 := Fr.app N0 Nc283
      clear Nc283
      exact absurd hp281 hgx0.2.2.2
    · obtain ⟨rfl, Nc286, hp284, Kc285⟩ := hQ280
      refine own_goW st280 ?_
      clear st280 X279 e279
      replace N0 := Fr.app N0 Nc286
      clear Nc286
      show own_GoW p e below s _ _ _ _ (T280.setTop (mkF m 6 #[rv a1, .unset, .unset, .unset, .unset, .unset, .unset, .unset] [(.int (0 : Int32))]))
      refine own_goW (fun _ k => XS.istoreN X280.here hx rfl (hb hby d11_6) rfl (l' := #[rv a1, iv (0 : Int32), .unset, .unset, .unset, .unset, .unset, .unset]) rfl (XS.iloadN X280.here hx rfl (hb hby d11_7) rfl (XS.ifYes X280.here hx rfl (pc0 := 8) (pc' := 15) rfl (hb hby d11_8) rfl ((if0 _ _).trans (teq (by decide : (0 : Int32) = (0 : Int32))).1) (by decide) (by decide) (XS.iconst X280.here hx rfl (hb hby d11_15) (XS.istoreN X280.here hx rfl (hb hby d11_16) rfl (l' := #[rv a1, iv (0 : Int32), iv (0 : Int32), .unset, .unset, .unset, .unset, .unset]) rfl (XS.aloadN X280.here hx rfl (hb hby d11_17) rfl rfl (XS.bipush X280.here hx rfl (hb hby d11_18) k))))))) ?_
      show own_GoW p e below s _ _ _ _ (T280.setTop (mkF m 20 #[rv a1, iv (0 : Int32), iv (0 : Int32), .unset, .unset, .unset, .unset, .unset] [(.int (46 : Int32)), (.ref a1)]))
      have dt287 : own_Dot Z h279 t (2 : Int32) (-1 : Int32) := Or.inr (Or.inr (Or.inr (⟨_, _, _, rfl, rfl, (g3.keep K0 nin0), hgx0, hgx1⟩)))
      obtain ⟨v288, T288, L288, X288, hQ288, st288⟩ := own_callV (y := own_y19) (z := own_y19) X280 hx hZ hown (ow82 hw) (ow83 hw) (notFace_of_selects (args := #[]) (mvT hZ (ow85 hw))) (ow85 hw) (ow84 hw) (ow7 hw) (ow86 hw) (rm_io1G l Z a0 hw hO [] a1 t kt (2 : Int32) ([(.int x0), (.int x1)] : List Value) (-1 : Int32) h279 O0 (fp0.keep K0) (g1.keep K0 nin0) (g2.keep K0 nin0) (g3.keep K0 nin0) dt287 (by decide : (0 : Int32) < (2 : Int32))) 0 0 0 (by show _ ≤ 24; omega) (by show _ ≤ 400; omega) Kc285 (fp0.keep K0) (g := (mkF m 20 #[rv a1, iv (0 : Int32), iv (0 : Int32), .unset, .unset, .unset, .unset, .unset] [(.int (46 : Int32)), (.ref a1)])) rfl (by rw [hml]; rfl) [(.int (46 : Int32))] [] (lenOf own_pd_32 rfl) rfl rfl (hb hby d11_20)
      obtain ⟨rfl, Nc290, Kc289⟩ := hQ288
      refine own_goW st288 ?_
      clear st288 X280 Kc285
      replace N0 := Fr.app N0 Nc290
      clear Nc290
      refine own_goW (fun _ k => XS.istoreN X288.here hx rfl (hb hby d11_23) rfl (l' := #[rv a1, iv (0 : Int32), iv (0 : Int32), iv (-1 : Int32), .unset, .unset, .unset, .unset]) rfl (XS.iloadN X288.here hx rfl (hb hby d11_24) rfl (XS.ifNo X288.here hx rfl (hb hby d11_25) rfl ((if0 _ _).trans (tlt (by decide : (-1 : Int32) < (0 : Int32))).2.1) (XS.aloadN X288.here hx rfl (hb hby d11_28) rfl rfl k)))) ?_
      obtain ⟨v291, T291, L291, X291, hQ291, st291⟩ := own_callV (y := own_y4) (z := own_y4) X288 hx hZ hown (ow114 hw) (ow69 hw) (notFace_of_selects (args := #[]) (mvT hZ (ow71 hw))) (ow71 hw) (ow70 hw) (ow7 hw) (ow72 hw) (rm_slenG l Z a0 hw hO [] a1 t kt (2 : Int32) ([(.int x0), (.int x1)] : List Value) h279 O0 (fp0.keep K0) (g1.keep K0 nin0) (g2.keep K0 nin0) (g3.keep K0 nin0)) 0 0 0 (by show _ ≤ 24; omega) (by show _ ≤ 400; omega) Kc289 (fp0.keep K0) (g := (mkF m 29 #[rv a1, iv (0 : Int32), iv (0 : Int32), iv (-1 : Int32), .unset, .unset, .unset, .unset] [(.ref a1)])) rfl (by rw [hml]; rfl) [] [] (lenOf own_pd_6 rfl) rfl rfl (hb hby d11_29)
      obtain ⟨rfl, Nc293, Kc292⟩ := hQ291
      refine own_goW st291 ?_
      clear st291 X288 Kc289
      replace N0 := Fr.app N0 Nc293
      clear Nc293
      refine own_goW (fun _ k => XS.goto X291.here hx rfl (pc0 := 32) (pc' := 36) rfl (hb hby d11_32) (by decide) (by decide) (XS.istore X291.here hx rfl (hb hby d11_36) rfl (l' := #[rv a1, iv (0 : Int32), iv (0 : Int32), iv (-1 : Int32), iv (2 : Int32), .unset, .unset, .unset]) rfl k)) ?_
      show own_GoW p e below s _ _ _ _ (T291.setTop (mkF m 38 #[rv a1, iv (0 : Int32), iv (0 : Int32), iv (-1 : Int32), iv (2 : Int32), .unset, .unset, .unset] []))
      refine own_goW (fun _ k => XS.aloadN X291.here hx rfl (hb hby d11_38) rfl rfl (XS.iloadN X291.here hx rfl (hb hby d11_39) rfl (XS.iload X291.here hx rfl (hb hby d11_40) rfl k))) ?_
      obtain ⟨v294, T294, L294, X294, hQ294, st294⟩ := own_callS (y := own_y20) X291 hx hZ hown (ow115 hw) (ow116 hw) (ow37 hw) (ow117 hw) (rm_dig_2_0_2 l Z a0 hw hO [] a1 t kt x0 x1 h279 O0 (fp0.keep K0) (g1.keep K0 nin0) (g2.keep K0 nin0) (g3.keep K0 nin0) hgx0 hgx1) 0 0 0 (by show _ ≤ 24; omega) (by show _ ≤ 400; omega) Kc292 (g := (mkF m 42 #[rv a1, iv (0 : Int32), iv (0 : Int32), iv (-1 : Int32), iv (2 : Int32), .unset, .unset, .unset] [(.int (2 : Int32)), (.int (0 : Int32)), (.ref a1)])) rfl (by rw [hml]; rfl) [(.ref a1), (.int (0 : Int32)), (.int (2 : Int32))] [] (lenOf own_pd_33 rfl) rfl rfl (hb hby d11_42)
      obtain ⟨rfl, Nc296, Kc295⟩ := hQ294
      refine own_goW st294 ?_
      clear st294 X291 Kc292
      replace N0 := Fr.app N0 Nc296
      clear Nc296
      refine own_goW (fun _ k => XS.ifNo X294.here hx rfl (hb hby d11_45) rfl ((if0 _ _).trans (feq (by decide : ¬ ((1 : Int32) = (0 : Int32)))).1) (XS.iloadN X294.here hx rfl (hb hby d11_48) rfl (XS.ifYes X294.here hx rfl (pc0 := 49) (pc' := 76) rfl (hb hby d11_49) rfl ((if0 _ _).trans (tlt (by decide : (-1 : Int32) < (0 : Int32))).1) (by decide) (by decide) (XS.iloadN X294.here hx rfl (hb hby d11_76) rfl k)))) ?_
      show own_GoW p e below s _ _ _ _ (T294.setTop (mkF m 77 #[rv a1, iv (0 : Int32), iv (0 : Int32), iv (-1 : Int32), iv (2 : Int32), .unset, .unset, .unset] [(.int (0 : Int32))]))
      refine own_goW (fun _ k => XS.istore X294.here hx rfl (hb hby d11_77) rfl (l' := #[rv a1, iv (0 : Int32), iv (0 : Int32), iv (-1 : Int32), iv (2 : Int32), iv (0 : Int32), .unset, .unset]) rfl (XS.iload X294.here hx rfl (hb hby d11_79) rfl (XS.iload X294.here hx rfl (hb hby d11_81) rfl (XS.iconst X294.here hx rfl (hb hby d11_83) (XS.isub X294.here hx rfl (hb hby d11_84) rfl (XS.icmpNo X294.here hx rfl (hb hby d11_85) rfl (tlt (by decide : (0 : Int32) < (1 : Int32))).2.1 (XS.aloadN X294.here hx rfl (hb hby d11_88) rfl rfl (XS.iload X294.here hx rfl (hb hby d11_89) rfl k)))))))) ?_
      show own_GoW p e below s _ _ _ _ (T294.setTop (mkF m 91 #[rv a1, iv (0 : Int32), iv (0 : Int32), iv (-1 : Int32), iv (2 : Int32), iv (0 : Int32), .unset, .unset] [(.int (0 : Int32)), (.ref a1)]))
      obtain ⟨v297, T297, L297, X297, hQ297, st297⟩ := own_callV (y := own_y9) (z := own_y9) X294 hx hZ hown (ow118 hw) (ow119 hw) (notFace_of_selects (args := #[]) (mvT hZ (ow121 hw))) (ow121 hw) (ow120 hw) (ow7 hw) (ow122 hw) (rm_ch_0 l Z a0 hw hO [] a1 t kt (2 : Int32) ([(.int x1)] : List Value) x0 h279 O0 (fp0.keep K0) (g1.keep K0 nin0) (g2.keep K0 nin0) (g3.keep K0 nin0) (by decide : (0 : Int32) < (2 : Int32))) 0 0 0 (by show _ ≤ 24; omega) (by show _ ≤ 400; omega) Kc295 (fp0.keep K0) (g := (mkF m 91 #[rv a1, iv (0 : Int32), iv (0 : Int32), iv (-1 : Int32), iv (2 : Int32), iv (0 : Int32), .unset, .unset] [(.int (0 : Int32)), (.ref a1)])) rfl (by rw [hml]; rfl) [(.int (0 : Int32))] [] (lenOf own_pd_12 rfl) rfl rfl (hb hby d11_91)
      obtain ⟨rfl, Nc299, Kc298⟩ := hQ297
      refine own_goW st297 ?_
      clear st297 X294 Kc295
      replace N0 := Fr.app N0 Nc299
      clear Nc299
      refine own_goW (fun _ k => XS.bipush X297.here hx rfl (hb hby d11_94) k) ?_
      by_cases hc300 : (x0 &&& (255 : Int32)) = (48 : Int32)
      · refine own_goW (fun _ k => XS.icmpNo X297.here hx rfl (hb hby d11_96) rfl (teq hc300).2 k) ?_
        show own_GoW p e below s _ _ _ _ (T297.setTop (mkF m 99 #[rv a1, iv (0 : Int32), iv (0 : Int32), iv (-1 : Int32), iv (2 : Int32), iv (0 : Int32), .unset, .unset] []))
        refine own_goW (fun _ k => XS.iinc X297.here hx rfl (hb hby d11_99) rfl (l' := #[rv a1, iv (0 : Int32), iv (0 : Int32), iv (-1 : Int32), iv (2 : Int32), iv (1 : Int32), .unset, .unset]) rfl (XS.goto X297.here hx rfl (pc0 := 102) (pc' := 79) rfl (hb hby d11_102) (by decide) (by decide) (XS.iload X297.here hx rfl (hb hby d11_79) rfl (XS.iload X297.here hx rfl (hb hby d11_81) rfl (XS.iconst X297.here hx rfl (hb hby d11_83) (XS.isub X297.here hx rfl (hb hby d11_84) rfl (XS.icmpYes X297.here hx rfl (pc0 := 85) (pc' := 105) rfl (hb hby d11_85) rfl (flt (by decide : ¬ ((1 : Int32) < (1 : Int32)))).2.1 (by decide) (by decide) (XS.aloadN X297.here hx rfl (hb hby d11_105) rfl rfl k)))))))) ?_
        show own_GoW p e below s _ _ _ _ (T297.setTop (mkF m 106 #[rv a1, iv (0 : Int32), iv (0 : Int32), iv (-1 : Int32), iv (2 : Int32), iv (1 : Int32), .unset, .unset] [(.ref a1)]))
        obtain ⟨v301, T301, L301, X301, hQ301, st301⟩ := own_callV (y := own_y4) (z := own_y4) X297 hx hZ hown (ow114 hw) (ow69 hw) (notFace_of_selects (args := #[]) (mvT hZ (ow71 hw))) (ow71 hw) (ow70 hw) (ow7 hw) (ow72 hw) (rm_slenG l Z a0 hw hO [] a1 t kt (2 : Int32) ([(.int x0), (.int x1)] : List Value) h279 O0 (fp0.keep K0) (g1.keep K0 nin0) (g2.keep K0 nin0) (g3.keep K0 nin0)) 0 0 0 (by show _ ≤ 24; omega) (by show _ ≤ 400; omega) Kc298 (fp0.keep K0) (g := (mkF m 106 #[rv a1, iv (0 : Int32), iv (0 : Int32), iv (-1 : Int32), iv (2 : Int32), iv (1 : Int32), .unset, .unset] [(.ref a1)])) rfl (by rw [hml]; rfl) [] [] (lenOf own_pd_6 rfl) rfl rfl (hb hby d11_106)
        obtain ⟨rfl, Nc303, Kc302⟩ := hQ301
        refine own_goW st301 ?_
        clear st301 X297 Kc298
        replace N0 := Fr.app N0 Nc303
        clear Nc303
        refine own_goW (fun _ k => XS.istore X301.here hx rfl (hb hby d11_109) rfl (l' := #[rv a1, iv (0 : Int32), iv (0 : Int32), iv (-1 : Int32), iv (2 : Int32), iv (1 : Int32), iv (2 : Int32), .unset]) rfl (XS.iload X301.here hx rfl (hb hby d11_111) rfl (XS.iload X301.here hx rfl (hb hby d11_113) rfl (XS.icmpYes X301.here hx rfl (pc0 := 115) (pc' := 145) rfl (hb hby d11_115) rfl (flt (by decide : ¬ ((2 : Int32) < (2 : Int32)))).2.2.2 (by decide) (by decide) (XS.aloadN X301.here hx rfl (hb hby d11_145) rfl rfl (XS.iload X301.here hx rfl (hb hby d11_146) rfl (XS.iload X301.here hx rfl (hb hby d11_148) rfl k))))))) ?_
        show own_GoW p e below s _ _ _ _ (T301.setTop (mkF m 150 #[rv a1, iv (0 : Int32), iv (0 : Int32), iv (-1 : Int32), iv (2 : Int32), iv (1 : Int32), iv (2 : Int32), .unset] [(.int (2 : Int32)), (.int (1 : Int32)), (.ref a1)]))
        obtain ⟨v304, T304, L304, X304, hQ304, st304⟩ := own_callV (y := own_y28) (z := own_y28) X301 hx hZ hown (ow134 hw) (ow135 hw) (notFace_of_selects (args := #[]) (mvT hZ (ow137 hw))) (ow137 hw) (ow136 hw) (ow7 hw) (ow138 hw) (rm_subG l Z a0 hw hO [] a1 (1 : Int32) (2 : Int32) t kt (2 : Int32) ([(.int x0), (.int x1)] : List Value) (1 : Int32) h279 O0 (fp0.keep K0) (g1.keep K0 nin0) (g2.keep K0 nin0) (g3.keep K0 nin0) (by unfold own_Rg; decide : own_Rg (1 : Int32) (2 : Int32) (2 : Int32)) (by decide : ((2 : Int32) - (1 : Int32)) = (1 : Int32)) (by decide : ¬ ((1 : Int32) = (0 : Int32))) (by unfold own_Rg; decide : own_Rg (1 : Int32) ((1 : Int32) + (1 : Int32)) (2 : Int32)) (by decide : ¬ ((1 : Int32) = (0 : Int32) ∧ (2 : Int32) = (2 : Int32))) (by decide : ¬ ((1 : Int32) = (0 : Int32) ∧ ((1 : Int32) + (1 : Int32)) = (2 : Int32)))) 0 2 20 (by show _ ≤ 24; omega) (by show _ ≤ 400; omega) Kc302 (fp0.keep K0) (g := (mkF m 150 #[rv a1, iv (0 : Int32), iv (0 : Int32), iv (-1 : Int32), iv (2 : Int32), iv (1 : Int32), iv (2 : Int32), .unset] [(.int (2 : Int32)), (.int (1 : Int32)), (.ref a1)])) rfl (by rw [hml]; rfl) [(.int (1 : Int32)), (.int (2 : Int32))] [] (lenOf own_pd_34 rfl) rfl rfl (hb hby d11_150)
        obtain ⟨w305, w306, w307, w308, rfl, Nc315, Kc314, hb309, f310, f311, f312, f313⟩ := hQ304
        refine own_goW st304 ?_
        clear st304 X301 Kc302
        replace N0 := Fr.app N0 Nc315
        clear Nc315
        have ne316 : b279 ≠ w305 := Nat.ne_of_lt (Nat.lt_of_lt_of_le g1279.lt hb309)
        have ne317 : t279 ≠ w305 := Nat.ne_of_lt (Nat.lt_of_lt_of_le g4279.lt hb309)
        have big318 : Z.heap.size ≤ w305 := Nat.le_trans O0.1 hb309
        have sz319 : h0.size ≤ w305 := Nat.le_trans K0.1 hb309
        replace hS := own_since hS Kc314.1
        replace hJ := own_Jkeep hZ hJ Kc314 all0
        replace dt287 := (own_DotK dt287 Kc314)
        replace g1279 := g1279.keep Kc314
        replace g2279 := g2279.keep Kc314 nin0
        replace g3279 := g3279.keep Kc314 nin0
        replace g4279 := g4279.keep Kc314 nin0
        replace O0 := own_oldKeep O0 Kc314 all0
        replace K0 := K0.trans Kc314 all0
        clear Kc314
        show own_GoW p e below s _ _ _ _ (T304.setTop (mkF m 153 #[rv a1, iv (0 : Int32), iv (0 : Int32), iv (-1 : Int32), iv (2 : Int32), iv (1 : Int32), iv (2 : Int32), .unset] [(.ref w305)]))
        refine own_goW (fun _ k => XS.astore X304.here hx rfl (hb hby d11_153) rfl rfl (l' := #[rv a1, iv (0 : Int32), iv (0 : Int32), iv (-1 : Int32), iv (2 : Int32), iv (1 : Int32), iv (2 : Int32), rv w305]) rfl (XS.iloadN X304.here hx rfl (hb hby d11_155) rfl (XS.ifYes X304.here hx rfl (pc0 := 156) (pc' := 192) rfl (hb hby d11_156) rfl ((if0 _ _).trans (teq (by decide : (0 : Int32) = (0 : Int32))).1) (by decide) (by decide) (XS.aload X304.here hx rfl (hb hby d11_192) rfl rfl k)))) ?_
        show own_GoW p e below s _ _ _ _ (T304.setTop (mkF m 194 #[rv a1, iv (0 : Int32), iv (0 : Int32), iv (-1 : Int32), iv (2 : Int32), iv (1 : Int32), iv (2 : Int32), rv w305] [(.ref w305)]))
        refine own_retAW X304 hS hL hZ hJ hx hlk (rfl : T304.heap = T304.heap) hret rfl rfl (hb hby d11_194) (by show _ ≤ 24; omega) (by show _ ≤ 400; omega) ?_
        exact ⟨w305, rfl, N0, K0, f310⟩
      · refine own_goW (fun _ k => XS.icmpYes X297.here hx rfl (pc0 := 96) (pc' := 105) rfl (hb hby d11_96) rfl (feq hc300).2 (by decide) (by decide) k) ?_
        show own_GoW p e below s _ _ _ _ (T297.setTop (mkF m 105 #[rv a1, iv (0 : Int32), iv (0 : Int32), iv (-1 : Int32), iv (2 : Int32), iv (0 : Int32), .unset, .unset] []))
        refine own_goW (fun _ k => XS.aloadN X297.here hx rfl (hb hby d11_105) rfl rfl k) ?_
        obtain ⟨v320, T320, L320, X320, hQ320, st320⟩ := own_callV (y := own_y4) (z := own_y4) X297 hx hZ hown (ow114 hw) (ow69 hw) (notFace_of_selects (args := #[]) (mvT hZ (ow71 hw))) (ow71 hw) (ow70 hw) (ow7 hw) (ow72 hw) (rm_slenG l Z a0 hw hO [] a1 t kt (2 : Int32) ([(.int x0), (.int x1)] : List Value) h279 O0 (fp0.keep K0) (g1.keep K0 nin0) (g2.keep K0 nin0) (g3.keep K0 nin0)) 0 0 0 (by show _ ≤ 24; omega) (by show _ ≤ 400; omega) Kc298 (fp0.keep K0) (g := (mkF m 106 #[rv a1, iv (0 : Int32), iv (0 : Int32), iv (-1 : Int32), iv (2 : Int32), iv (0 : Int32), .unset, .unset] [(.ref a1)])) rfl (by rw [hml]; rfl) [] [] (lenOf own_pd_6 rfl) rfl rfl (hb hby d11_106)
        obtain ⟨rfl, Nc322, Kc321⟩ := hQ320
        refine own_goW st320 ?_
        clear st320 X297 Kc298
        replace N0 := Fr.app N0 Nc322
        clear Nc322
        refine own_goW (fun _ k => XS.istore X320.here hx rfl (hb hby d11_109) rfl (l' := #[rv a1, iv (0 : Int32), iv (0 : Int32), iv (-1 : Int32), iv (2 : Int32), iv (0 : Int32), iv (2 : Int32), .unset]) rfl (XS.iload X320.here hx rfl (hb hby d11_111) rfl (XS.iload X320.here hx rfl (hb hby d11_113) rfl (XS.icmpYes X320.here hx rfl (pc0 := 115) (pc' := 145) rfl (hb hby d11_115) rfl (flt (by decide : ¬ ((2 : Int32) < (2 : Int32)))).2.2.2 (by decide) (by decide) (XS.aloadN X320.here hx rfl (hb hby d11_145) rfl rfl (XS.iload X320.here hx rfl (hb hby d11_146) rfl k)))))) ?_
        show own_GoW p e below s _ _ _ _ (T320.setTop (mkF m 148 #[rv a1, iv (0 : Int32), iv (0 : Int32), iv (-1 : Int32), iv (2 : Int32), iv (0 : Int32), iv (2 : Int32), .unset] [(.int (0 : Int32)), (.ref a1)]))
        refine own_goW (fun _ k => XS.iload X320.here hx rfl (hb hby d11_148) rfl k) ?_
        obtain ⟨v323, T323, L323, X323, hQ323, st323⟩ := own_callV (y := own_y28) (z := own_y28) X320 hx hZ hown (ow134 hw) (ow135 hw) (notFace_of_selects (args := #[]) (mvT hZ (ow137 hw))) (ow137 hw) (ow136 hw) (ow7 hw) (ow138 hw) (rm_subS l Z a0 hw hO [] a1 (2 : Int32) t kt (2 : Int32) ([(.int x0), (.int x1)] : List Value) h279 O0 (fp0.keep K0) (g1.keep K0 nin0) (g2.keep K0 nin0) (g3.keep K0 nin0) (by decide : (2 : Int32) = (2 : Int32)) (by decide : ¬ ((2 : Int32) < (0 : Int32))) (by decide : ¬ ((2 : Int32) < (2 : Int32)))) 0 0 0 (by show _ ≤ 24; omega) (by show _ ≤ 400; omega) Kc321 (fp0.keep K0) (g := (mkF m 150 #[rv a1, iv (0 : Int32), iv (0 : Int32), iv (-1 : Int32), iv (2 : Int32), iv (0 : Int32), iv (2 : Int32), .unset] [(.int (2 : Int32)), (.int (0 : Int32)), (.ref a1)])) rfl (by rw [hml]; rfl) [(.int (0 : Int32)), (.int (2 : Int32))] [] (lenOf own_pd_34 rfl) rfl rfl (hb hby d11_150)
        obtain ⟨rfl, Nc325, Kc324⟩ := hQ323
        refine own_goW st323 ?_
        clear st323 X320 Kc321
        replace N0 := Fr.app N0 Nc325
        clear Nc325
        show own_GoW p e below s _ _ _ _ (T323.setTop (mkF m 153 #[rv a1, iv (0 : Int32), iv (0 : Int32), iv (-1 : Int32), iv (2 : Int32), iv (0 : Int32), iv (2 : Int32), .unset] [(.ref a1)]))
        refine own_goW (fun _ k => XS.astore X323.here hx rfl (hb hby d11_153) rfl rfl (l' := #[rv a1, iv (0 : Int32), iv (0 : Int32), iv (-1 : Int32), iv (2 : Int32), iv (0 : Int32), iv (2 : Int32), rv a1]) rfl (XS.iloadN X323.here hx rfl (hb hby d11_155) rfl (XS.ifYes X323.here hx rfl (pc0 := 156) (pc' := 192) rfl (hb hby d11_156) rfl ((if0 _ _).trans (teq (by decide : (0 : Int32) = (0 : Int32))).1) (by decide) (by decide) (XS.aload X323.here hx rfl (hb hby d11_192) rfl rfl k)))) ?_
        show own_GoW p e below s _ _ _ _ (T323.setTop (mkF m 194 #[rv a1, iv (0 : Int32), iv (0 : Int32), iv (-1 : Int32), iv (2 : Int32), iv (0 : Int32), iv (2 : Int32), rv a1] [(.ref a1)]))
        refine own_retAW X323 hS hL hZ hJ hx hlk Kc324 hret rfl rfl (hb hby d11_194) (by show _ ≤ 24; omega) (by show _ ≤ 400; omega) ?_
        exact ⟨a1, rfl, N0, K0, (fp0.keep K0)⟩
theorem d9_0 : decode jdk_30_method_1_code 0 = .ok (.aload_n 0, 1) := by decide +kernel
theorem d9_1 : decode jdk_30_method_1_code 1 = .ok (.invokespecial 1, 3) := by decide +kernel
theorem d9_4 : decode jdk_30_method_1_code 4 = .ok (.return_, 1) := by decide +kernel
def Q_recinit (Z : State) (zc : Int32) (wsf : Value) (a1 : Addr) (h0 : Heap) (v : Option Value) (h : Heap) (L : List Loc) : Prop := (v = none ∧ Fr Z.heap.size L ∧ h = h0)
theorem ef_recinit (m : MethodId) (x0 : Addr) : entryFrame m #[(.ref x0)] 1 = mkF m 0 #[rv x0] [] := by first | (simp [entryFrame, mkF, argsToLocals, Value.category]; done) | rfl
set_option maxRecDepth 65536 in
set_option maxHeartbeats 40000000 in
theorem rm_recinit (l : Launch) (Z : State) (a0 : Array Value) (hw : own_W Z a0) {zc : Int32} {wsf : Value} (hO : own_Olds Z zc wsf) (ws : List Jvm.Cond) (a1 : Addr) (h0 : Heap) (O0 : Ext Z.heap h0) :
    own_MF l Z h0 own_y47 jdk_30_method_1_code 1 none ({ frames := 1, cells := 0, slots := 0, locals := 12 } : Room) #[(.ref a1)] (Q_recinit Z zc wsf a1 h0) ws := by
  refine own_met (Q := (Q_recinit Z zc wsf a1 h0)) _ _ (plainFor_of_name own_pn_9) ?_
  intro p e s m below meth c T X0 hx hby hml hret hlk hZ hown hnm e0
  replace hown : s.vm.findClass "java/lang/Record" = some m.cls := hown
  replace hnm : meth.name = "<init>" := hnm
  have hml : c.maxLocals = 1 := hml
  obtain ⟨oCS, oCz, oSF, r_wsf⟩ := id hO
  have N0 := Fr.nil Z.heap.size
  have K0 := Keep.refl h0 []
  refine own_go (fun _ k => castTop (ef_recinit m a1) k) ?_
  show own_Go p e below s _ _ _ (T.setTop (mkF m 0 #[rv a1] []))
  refine own_go (fun _ k => XS.aloadN X0.here hx rfl (hb hby d9_0) rfl rfl k) ?_
  obtain ⟨T1, X1, e1, st1⟩ := initO X0 hx hZ hown (ow46 hw) (ow17 hw) (ow18 hw) e0 (g := (mkF m 1 #[rv a1] [(.ref a1)])) rfl (by rw [hml]; rfl) rfl (hb hby d9_1) (by decide) (W := 0) (by show 2 * 0 + _ ≤ _; exact Nat.le_of_eq rfl) (by decide)
  refine own_go st1 ?_
  clear st1 X0 e0
  show own_Go p e below s _ _ _ (T1.setTop (mkF m 4 #[rv a1] []))
  refine own_retV X1 hx hlk e1 hret (hb hby d9_4) (by show _ ≤ 0; omega) (by show _ ≤ 0; omega) ?_
  exact ⟨rfl, N0, rfl⟩
theorem d10_0 : decode jdk_31_method_11_code 0 = .ok (.aload_n 0, 1) := by decide +kernel
theorem d10_1 : decode jdk_31_method_11_code 1 = .ok (.ifnonnull 12, 3) := by decide +kernel
theorem d10_13 : decode jdk_31_method_11_code 13 = .ok (.aload_n 0, 1) := by decide +kernel
theorem d10_14 : decode jdk_31_method_11_code 14 = .ok (.areturn, 1) := by decide +kernel
def Q_rnn2 (Z : State) (zc : Int32) (wsf : Value) (a1 : Addr) (a2 : Addr) (h0 : Heap) (v : Option Value) (h : Heap) (L : List Loc) : Prop := (v = some (.ref a1) ∧ Fr Z.heap.size L ∧ h = h0)
theorem ef_rnn2 (m : MethodId) (x0 : Addr) (x1 : Addr) : entryFrame m #[(.ref x0), (.ref x1)] 2 = mkF m 0 #[rv x0, rv x1] [] := by first | (simp [entryFrame, mkF, argsToLocals, Value.category]; done) | rfl
set_option maxRecDepth 65536 in
set_option maxHeartbeats 40000000 in
theorem rm_rnn2 (l : Launch) (Z : State) (a0 : Array Value) (hw : own_W Z a0) {zc : Int32} {wsf : Value} (hO : own_Olds Z zc wsf) (ws : List Jvm.Cond) (a1 : Addr) (a2 : Addr) (h0 : Heap) (O0 : Ext Z.heap h0) :
    own_MF l Z h0 own_y48 jdk_31_method_11_code 2 (some (.object "java/lang/Object")) ({ frames := 0, cells := 0, slots := 0, locals := 0 } : Room) #[(.ref a1), (.ref a2)] (Q_rnn2 Z zc wsf a1 a2 h0) ws := by
  refine own_met (Q := (Q_rnn2 Z zc wsf a1 a2 h0)) _ _ (plainFor_of_name own_pn_10) ?_
  intro p e s m below meth c T X0 hx hby hml hret hlk hZ hown hnm e0
  replace hown : s.vm.findClass "java/util/Objects" = some m.cls := hown
  replace hnm : meth.name = "requireNonNull" := hnm
  have hml : c.maxLocals = 2 := hml
  obtain ⟨oCS, oCz, oSF, r_wsf⟩ := id hO
  have N0 := Fr.nil Z.heap.size
  have K0 := Keep.refl h0 []
  refine own_go (fun _ k => castTop (ef_rnn2 m a1 a2) k) ?_
  show own_Go p e below s _ _ _ (T.setTop (mkF m 0 #[rv a1, rv a2] []))
  refine own_go (fun _ k => XS.aloadN X0.here hx rfl (hb hby d10_0) rfl rfl (XS.ifnonnullYes X0.here hx rfl (pc0 := 1) (pc' := 13) rfl (hb hby d10_1) rfl (by decide) (by decide) (XS.aloadN X0.here hx rfl (hb hby d10_13) rfl rfl k))) ?_
  show own_Go p e below s _ _ _ (T.setTop (mkF m 14 #[rv a1, rv a2] [(.ref a1)]))
  refine own_retA X0 hx hlk e0 hret rfl rfl (hb hby d10_14) (by show _ ≤ 0; omega) (by show _ ≤ 0; omega) ?_
  exact ⟨rfl, N0, rfl⟩
theorem d8_0 : decode prog_69_method_1_code 0 = .ok (.aload_n 0, 1) := by decide +kernel
theorem d8_1 : decode prog_69_method_1_code 1 = .ok (.invokespecial 1, 3) := by decide +kernel
theorem d8_4 : decode prog_69_method_1_code 4 = .ok (.aload_n 2, 1) := by decide +kernel
theorem d8_5 : decode prog_69_method_1_code 5 = .ok (.ldc 7, 2) := by decide +kernel
theorem d8_7 : decode prog_69_method_1_code 7 = .ok (.invokestatic 9, 3) := by decide +kernel
theorem d8_10 : decode prog_69_method_1_code 10 = .ok (.pop, 1) := by decide +kernel
theorem d8_11 : decode prog_69_method_1_code 11 = .ok (.iload_n 1, 1) := by decide +kernel
theorem d8_12 : decode prog_69_method_1_code 12 = .ok (.ifCond .ne 8, 3) := by decide +kernel
theorem d8_20 : decode prog_69_method_1_code 20 = .ok (.aload_n 0, 1) := by decide +kernel
theorem d8_21 : decode prog_69_method_1_code 21 = .ok (.iload_n 1, 1) := by decide +kernel
theorem d8_22 : decode prog_69_method_1_code 22 = .ok (.putfield 21, 3) := by decide +kernel
theorem d8_25 : decode prog_69_method_1_code 25 = .ok (.aload_n 0, 1) := by decide +kernel
theorem d8_26 : decode prog_69_method_1_code 26 = .ok (.aload_n 2, 1) := by decide +kernel
theorem d8_27 : decode prog_69_method_1_code 27 = .ok (.putfield 25, 3) := by decide +kernel
theorem d8_30 : decode prog_69_method_1_code 30 = .ok (.return_, 1) := by decide +kernel
def Q_cinit1 (Z : State) (zc : Int32) (wsf : Value) (a1 : Addr) (a2 : Addr) (h0 : Heap) (v : Option Value) (h : Heap) (L : List Loc) : Prop := (v = none ∧ Fr Z.heap.size L ∧ Keep h0 h [a1] ∧ Exa Z h a1 "com/example/ibex/ibex/model/Constant" ∧ Fld Z h a1 "com/example/ibex/ibex/model/Constant" "string" "Z" (.int (1 : Int32)))
theorem ef_cinit1 (m : MethodId) (x0 : Addr) (x2 : Addr) : entryFrame m #[(.ref x0), (.int (1 : Int32)), (.ref x2)] 3 = mkF m 0 #[rv x0, iv (1 : Int32), rv x2] [] := by first | (simp [entryFrame, mkF, argsToLocals, Value.category]; done) | rfl
set_option maxRecDepth 65536 in
set_option maxHeartbeats 40000000 in
theorem rm_cinit1 (l : Launch) (Z : State) (a0 : Array Value) (hw : own_W Z a0) {zc : Int32} {wsf : Value} (hO : own_Olds Z zc wsf) (ws : List Jvm.Cond) (a1 : Addr) (a2 : Addr) (h0 : Heap) (O0 : Ext Z.heap h0) (fp0 : Exa Z h0 a1 "com/example/ibex/ibex/model/Constant") (fp1 : Fld Z h0 a1 "com/example/ibex/ibex/model/Constant" "string" "Z" (.int (0 : Int32))) (fp2 : Fld Z h0 a1 "com/example/ibex/ibex/model/Constant" "text" "Ljava/lang/String;" .null) (big_a1 : Z.heap.size ≤ a1) :
    MetFree l own_y49 (head1 (Jvm.Cond.code own_y49 prog_69_method_1_code 3 none :: ws) ({ frames := 2, cells := 2, slots := 20, locals := 24 } : Room)) (fun a U => a = #[(.ref a1), (.int (1 : Int32)), (.ref a2)] ∧ Z.Warmed39 U.vm ∧ U.heap = h0 ∧ own_J Z U.vm U.heap) (fun _ _ _ _ _ => True) (fun _ U o U' => ∃ v L, o = .returned v ∧ ((Q_cinit1 Z zc wsf a1 a2 h0) v U'.heap L ∧ own_J Z U'.vm U'.heap) ∧ ReturnedEndW U o U' L ({ frames := 2, cells := 2, slots := 20, locals := 24 } : Room).cells ({ frames := 2, cells := 2, slots := 20, locals := 24 } : Room).slots) := by
  refine own_metW (Q := (Q_cinit1 Z zc wsf a1 a2 h0)) _ _ (plainFor_of_name own_pn_5) ?_
  intro p e s vm0 m below meth c T X0 hS hJ hJ0 hZ0 hI hs0 hx hby hml hret hlk hZ hown hnm e0
  replace hown : (s.setVm vm0).vm.findClass "com/example/ibex/ibex/model/Constant" = some m.cls := hown
  replace hnm : meth.name = "<init>" := hnm
  have hml : c.maxLocals = 3 := hml
  obtain ⟨oCS, oCz, oSF, r_wsf⟩ := id hO
  have N0 := Fr.nil Z.heap.size
  have hL := own_Lhw hw
  have K0 := Keep.refl h0 [a1]
  refine own_goW (fun _ k => castTop (ef_cinit1 m a1 a2) k) ?_
  show own_GoW p e below s _ _ _ _ (T.setTop (mkF m 0 #[rv a1, iv (1 : Int32), rv a2] []))
  refine own_goW (fun _ k => XS.aloadN X0.here hx rfl (hb hby d8_0) rfl rfl k) ?_
  obtain ⟨v1, T1, L1, X1, hQ1, st1⟩ := own_callI (y := own_y47) X0 hx hZ hown (ow41 hw) (ow42 hw) (ow44 hw) (ow45 hw) (rm_recinit l Z a0 hw hO [] a1 h0 O0) 0 0 0 rfl (by show _ ≤ 2; omega) (by show _ ≤ 20; omega) e0 (g := (mkF m 1 #[rv a1, iv (1 : Int32), rv a2] [(.ref a1)])) rfl (by rw [hml]; rfl) a1 [] [] (lenOf own_pd_28 rfl) rfl rfl (hb hby d8_1)
  obtain ⟨rfl, Nc3, Kc2⟩ := hQ1
  refine own_goW st1 ?_
  clear st1 X0 e0
  replace N0 := Fr.app N0 Nc3
  clear Nc3
  refine own_goW (fun _ k => XS.aloadN X1.here hx rfl (hb hby d8_4) rfl rfl k) ?_
  obtain ⟨b4, T4, h4, vm4, u4, X4, e4, E4, hSn, hZn, hownn, hJn, li4, tx4, sl4, st4⟩ := own_ldcK X1 hS hx hZ hown hL (List.mem_of_getElem? (i := 0) rfl) (ow47 hw) (own_wS hw) Kc2 hJ (by decide) (g := (mkF m 5 #[rv a1, iv (1 : Int32), rv a2] [(.ref a2)])) rfl (hb hby d8_5) (n := 16) (by decide) (by decide) (by show _ ≤ 2; omega) (by show _ ≤ 20; omega)
  refine own_goW st4 ?_
  clear st4 X1 Kc2
  replace hS := hSn
  replace hZ := hZn
  replace hown := hownn
  replace hJ := hJn
  clear hSn hZn hownn hJn
  replace fp0 := fp0.ext E4
  replace fp1 := fp1.ext E4
  replace fp2 := fp2.ext E4
  replace O0 := own_oldExt O0 E4
  replace K0 := K0.ext E4
  clear E4
  obtain ⟨t4, kt4, g14, g24, g34, g44⟩ := own_litFacts hZ sl4 tx4 (by decide)
  clear sl4 tx4
  replace g44 : Arv Z h4 t4 kt4 .byte (4 : Int32) [(.int (116 : Int32)), (.int (101 : Int32)), (.int (120 : Int32)), (.int (116 : Int32))] (.int (0 : Int32)) := g44
  obtain ⟨v5, T5, L5, X5, hQ5, st5⟩ := own_callS (y := own_y48) X4 hx hZ hown (ow50 hw) (ow51 hw) (ow52 hw) (ow53 hw) (rm_rnn2 l Z a0 hw hO [] a2 b4 h4 O0) 0 0 0 (by show _ ≤ 2; omega) (by show _ ≤ 20; omega) e4 (g := (mkF m 7 #[rv a1, iv (1 : Int32), rv a2] [(.ref b4), (.ref a2)])) rfl (by rw [hml]; rfl) [(.ref a2), (.ref b4)] [] (lenOf own_pd_35 rfl) rfl rfl (hb hby d8_7)
  obtain ⟨rfl, Nc7, Kc6⟩ := hQ5
  refine own_goW st5 ?_
  clear st5 X4 e4
  replace N0 := Fr.app N0 Nc7
  clear Nc7
  refine own_goW (fun _ k => XS.pop X5.here hx rfl (hb hby d8_10) rfl rfl (XS.iloadN X5.here hx rfl (hb hby d8_11) rfl (XS.ifYes X5.here hx rfl (pc0 := 12) (pc' := 20) rfl (hb hby d8_12) rfl ((if0 _ _).trans (feq (by decide : ¬ ((1 : Int32) = (0 : Int32)))).2) (by decide) (by decide) k))) ?_
  show own_GoW p e below s _ _ _ _ (T5.setTop (mkF m 20 #[rv a1, iv (1 : Int32), rv a2] []))
  refine own_goW (fun _ k => XS.aloadN X5.here hx rfl (hb hby d8_20) rfl rfl (XS.iloadN X5.here hx rfl (hb hby d8_21) rfl k)) ?_
  obtain ⟨T8, h8, X8, e8, W8, st8⟩ := putFN X5 hx hZ hown (ow145 hw) Via.refl Kc6 fp1 fp0 (Or.inr ⟨(ow146 hw), rfl, hnm⟩) (ow36 hw) (ty := .boolean) (v' := (.int (1 : Int32))) own_fd3 rfl (by decide) (g := (mkF m 22 #[rv a1, iv (1 : Int32), rv a2] [(.int (1 : Int32)), (.ref a1)])) rfl rfl (hb hby d8_22)
  refine own_goW st8 ?_
  clear st8 X5 Kc6
  replace N0 := Fr.snoc X8 N0 big_a1
  replace hJ := own_Jwr hZ hJ W8 (own_farE fp0 (by decide) (ow36 hw))
  have ne9 : b4 ≠ a1 := (ne_exa g14 fp0 (by decide))
  have ne10 : t4 ≠ a1 := (Ne.symm (Exa.neArv fp0 g44 (ow36 hw)))
  replace fp0 := fp0.wr W8
  replace fp1 := fp1.same W8
  replace fp2 := fp2.other W8 (.inr (own_sn4 hw))
  replace g14 := g14.wr W8
  replace g24 := g24.other W8 (Or.inl ne9)
  replace g34 := g34.other W8 (Or.inl ne9)
  replace g44 := g44.other W8 ne10
  replace O0 := own_oldWr O0 W8 big_a1
  replace K0 := K0.wr W8 (Or.inl (List.mem_of_getElem? (i := 0) rfl))
  replace hS := own_since hS (Nat.le_of_eq W8.size.symm)
  clear W8
  refine own_goW (fun _ k => XS.aloadN X8.here hx rfl (hb hby d8_25) rfl rfl (XS.aloadN X8.here hx rfl (hb hby d8_26) rfl rfl k)) ?_
  obtain ⟨T11, h11, X11, e11, W11, st11⟩ := putF X8 hx hZ hown (host := "") (Or.inl (ow147 hw)) Via.refl e8 fp2 fp0 (Or.inr ⟨(ow148 hw), rfl, hnm⟩) (ow36 hw) (ty := (.object "java/lang/String")) own_fd4 rfl rfl (g := (mkF m 27 #[rv a1, iv (1 : Int32), rv a2] [(.ref a2), (.ref a1)])) rfl rfl (hb hby d8_27)
  refine own_goW st11 ?_
  clear st11 X8 e8
  replace N0 := Fr.snoc X11 N0 big_a1
  replace hJ := own_Jwr hZ hJ W11 (own_farE fp0 (by decide) (ow36 hw))
  replace fp0 := fp0.wr W11
  replace fp1 := fp1.other W11 (.inr (own_sn4 hw).symm)
  replace fp2 := fp2.same W11
  replace g14 := g14.wr W11
  replace g24 := g24.other W11 (Or.inl ne9)
  replace g34 := g34.other W11 (Or.inl ne9)
  replace g44 := g44.other W11 ne10
  replace O0 := own_oldWr O0 W11 big_a1
  replace K0 := K0.wr W11 (Or.inl (List.mem_of_getElem? (i := 0) rfl))
  replace hS := own_since hS (Nat.le_of_eq W11.size.symm)
  clear W11
  show own_GoW p e below s _ _ _ _ (T11.setTop (mkF m 30 #[rv a1, iv (1 : Int32), rv a2] []))
  refine own_retVW X11 hS hL hZ hJ hx hlk e11 hret (hb hby d8_30) (by show _ ≤ 2; omega) (by show _ ≤ 20; omega) ?_
  exact ⟨rfl, N0, K0, fp0, fp1⟩
theorem d8_15 : decode prog_69_method_1_code 15 = .ok (.aload_n 2, 1) := by decide +kernel
theorem d8_16 : decode prog_69_method_1_code 16 = .ok (.invokestatic 15, 3) := by decide +kernel
theorem d8_19 : decode prog_69_method_1_code 19 = .ok (.astore_n 2, 1) := by decide +kernel
def Q_cinit0 (Z : State) (zc : Int32) (wsf : Value) (a1 : Addr) (a2 : Addr) (h0 : Heap) (v : Option Value) (h : Heap) (L : List Loc) : Prop := (v = none ∧ Fr Z.heap.size L ∧ Keep h0 h [a1] ∧ Exa Z h a1 "com/example/ibex/ibex/model/Constant" ∧ Fld Z h a1 "com/example/ibex/ibex/model/Constant" "string" "Z" (.int (0 : Int32)))
theorem ef_cinit0 (m : MethodId) (x0 : Addr) (x2 : Addr) : entryFrame m #[(.ref x0), (.int (0 : Int32)), (.ref x2)] 3 = mkF m 0 #[rv x0, iv (0 : Int32), rv x2] [] := by first | (simp [entryFrame, mkF, argsToLocals, Value.category]; done) | rfl
set_option maxRecDepth 65536 in
set_option maxHeartbeats 40000000 in
theorem rm_cinit0 (l : Launch) (Z : State) (a0 : Array Value) (hw : own_W Z a0) {zc : Int32} {wsf : Value} (hO : own_Olds Z zc wsf) (ws : List Jvm.Cond) (a1 : Addr) (a2 : Addr) (h0 : Heap) (O0 : Ext Z.heap h0) (fp0 : Exa Z h0 a1 "com/example/ibex/ibex/model/Constant") (fp1 : Fld Z h0 a1 "com/example/ibex/ibex/model/Constant" "string" "Z" (.int (0 : Int32))) (fp2 : Fld Z h0 a1 "com/example/ibex/ibex/model/Constant" "text" "Ljava/lang/String;" .null) (fp3 : Exa Z h0 a2 "java/lang/String") (fp4 : own_Num Z h0 a2) (big_a1 : Z.heap.size ≤ a1) :
    MetFree l own_y49 (head1 (Jvm.Cond.code own_y49 prog_69_method_1_code 3 none :: ws) ({ frames := 10, cells := 26, slots := 420, locals := 209 } : Room)) (fun a U => a = #[(.ref a1), (.int (0 : Int32)), (.ref a2)] ∧ Z.Warmed39 U.vm ∧ U.heap = h0 ∧ own_J Z U.vm U.heap) (fun _ _ _ _ _ => True) (fun _ U o U' => ∃ v L, o = .returned v ∧ ((Q_cinit0 Z zc wsf a1 a2 h0) v U'.heap L ∧ own_J Z U'.vm U'.heap) ∧ ReturnedEndW U o U' L ({ frames := 10, cells := 26, slots := 420, locals := 209 } : Room).cells ({ frames := 10, cells := 26, slots := 420, locals := 209 } : Room).slots) := by
  refine own_metW (Q := (Q_cinit0 Z zc wsf a1 a2 h0)) _ _ (plainFor_of_name own_pn_5) ?_
  intro p e s vm0 m below meth c T X0 hS hJ hJ0 hZ0 hI hs0 hx hby hml hret hlk hZ hown hnm e0
  replace hown : (s.setVm vm0).vm.findClass "com/example/ibex/ibex/model/Constant" = some m.cls := hown
  replace hnm : meth.name = "<init>" := hnm
  have hml : c.maxLocals = 3 := hml
  obtain ⟨oCS, oCz, oSF, r_wsf⟩ := id hO
  have N0 := Fr.nil Z.heap.size
  have hL := own_Lhw hw
  have K0 := Keep.refl h0 [a1]
  refine own_goW (fun _ k => castTop (ef_cinit0 m a1 a2) k) ?_
  have ne1 : a2 ≠ a1 := (ne_exa fp3 fp0 (by decide))
  have far2 : own_Afar Z h0 a1 := (own_afE fp0 (by decide) (ow36 hw))
  show own_GoW p e below s _ _ _ _ (T.setTop (mkF m 0 #[rv a1, iv (0 : Int32), rv a2] []))
  refine own_goW (fun _ k => XS.aloadN X0.here hx rfl (hb hby d8_0) rfl rfl k) ?_
  obtain ⟨v3, T3, L3, X3, hQ3, st3⟩ := own_callI (y := own_y47) X0 hx hZ hown (ow41 hw) (ow42 hw) (ow44 hw) (ow45 hw) (rm_recinit l Z a0 hw hO [] a1 h0 O0) 0 0 0 rfl (by show _ ≤ 26; omega) (by show _ ≤ 420; omega) e0 (g := (mkF m 1 #[rv a1, iv (0 : Int32), rv a2] [(.ref a1)])) rfl (by rw [hml]; rfl) a1 [] [] (lenOf own_pd_28 rfl) rfl rfl (hb hby d8_1)
  obtain ⟨rfl, Nc5, Kc4⟩ := hQ3
  refine own_goW st3 ?_
  clear st3 X0 e0
  replace N0 := Fr.app N0 Nc5
  clear Nc5
  refine own_goW (fun _ k => XS.aloadN X3.here hx rfl (hb hby d8_4) rfl rfl k) ?_
  obtain ⟨b6, T6, h6, vm6, u6, X6, e6, E6, hSn, hZn, hownn, hJn, li6, tx6, sl6, st6⟩ := own_ldcK X3 hS hx hZ hown hL (List.mem_of_getElem? (i := 0) rfl) (ow47 hw) (own_wS hw) Kc4 hJ (by decide) (g := (mkF m 5 #[rv a1, iv (0 : Int32), rv a2] [(.ref a2)])) rfl (hb hby d8_5) (n := 16) (by decide) (by decide) (by show _ ≤ 26; omega) (by show _ ≤ 420; omega)
  refine own_goW st6 ?_
  clear st6 X3 Kc4
  replace hS := hSn
  replace hZ := hZn
  replace hown := hownn
  replace hJ := hJn
  clear hSn hZn hownn hJn
  replace fp0 := fp0.ext E6
  replace fp1 := fp1.ext E6
  replace fp2 := fp2.ext E6
  replace O0 := own_oldExt O0 E6
  replace K0 := K0.ext E6
  clear E6
  obtain ⟨t6, kt6, g16, g26, g36, g46⟩ := own_litFacts hZ sl6 tx6 (by decide)
  clear sl6 tx6
  replace g46 : Arv Z h6 t6 kt6 .byte (4 : Int32) [(.int (116 : Int32)), (.int (101 : Int32)), (.int (120 : Int32)), (.int (116 : Int32))] (.int (0 : Int32)) := g46
  obtain ⟨v7, T7, L7, X7, hQ7, st7⟩ := own_callS (y := own_y48) X6 hx hZ hown (ow50 hw) (ow51 hw) (ow52 hw) (ow53 hw) (rm_rnn2 l Z a0 hw hO [] a2 b6 h6 O0) 0 0 0 (by show _ ≤ 26; omega) (by show _ ≤ 420; omega) e6 (g := (mkF m 7 #[rv a1, iv (0 : Int32), rv a2] [(.ref b6), (.ref a2)])) rfl (by rw [hml]; rfl) [(.ref a2), (.ref b6)] [] (lenOf own_pd_35 rfl) rfl rfl (hb hby d8_7)
  obtain ⟨rfl, Nc9, Kc8⟩ := hQ7
  refine own_goW st7 ?_
  clear st7 X6 e6
  replace N0 := Fr.app N0 Nc9
  clear Nc9
  refine own_goW (fun _ k => XS.pop X7.here hx rfl (hb hby d8_10) rfl rfl (XS.iloadN X7.here hx rfl (hb hby d8_11) rfl (XS.ifNo X7.here hx rfl (hb hby d8_12) rfl ((if0 _ _).trans (teq (by decide : (0 : Int32) = (0 : Int32))).2) k))) ?_
  show own_GoW p e below s _ _ _ _ (T7.setTop (mkF m 15 #[rv a1, iv (0 : Int32), rv a2] []))
  refine own_goW (fun _ k => XS.aloadN X7.here hx rfl (hb hby d8_15) rfl rfl k) ?_
  obtain ⟨v10, T10, L10, X10, hSn, hZn, hownn, hQ10, hJn, st10⟩ := own_callSW (y := own_y46) X7 hS hL hJ hx hZ hown (ow54 hw) (ow55 hw) (ow37 hw) (ow56 hw) (rm_plain l Z a0 hw hO [] a2 h6 O0 (fp3.keep K0) (own_NumK fp4 fp3 K0 (allS far2 all0))) 0 24 400 (by show _ ≤ 26; omega) (by show _ ≤ 420; omega) Kc8 (g := (mkF m 16 #[rv a1, iv (0 : Int32), rv a2] [(.ref a2)])) rfl (by rw [hml]; rfl) [(.ref a2)] [] (lenOf own_pd_36 rfl) rfl rfl (hb hby d8_16)
  replace hS := hSn
  replace hZ := hZn
  replace hown := hownn
  replace hJ := hJn
  clear hSn hZn hownn hJn
  obtain ⟨w11, rfl, Nc14, Kc13, f12⟩ := hQ10
  refine own_goW st10 ?_
  clear st10 X7 Kc8
  replace N0 := Fr.app N0 Nc14
  clear Nc14
  replace fp0 := fp0.keep Kc13
  replace fp1 := fp1.keep Kc13 nin0
  replace fp2 := fp2.keep Kc13 nin0
  replace g16 := g16.keep Kc13
  replace g26 := g26.keep Kc13 nin0
  replace g36 := g36.keep Kc13 nin0
  replace g46 := g46.keep Kc13 nin0
  replace O0 := own_oldKeep O0 Kc13 all0
  replace K0 := K0.trans Kc13 all0
  clear Kc13
  refine own_goW (fun _ k => XS.astoreN X10.here hx rfl (hb hby d8_19) rfl rfl (l' := #[rv a1, iv (0 : Int32), rv w11]) rfl (XS.aloadN X10.here hx rfl (hb hby d8_20) rfl rfl (XS.iloadN X10.here hx rfl (hb hby d8_21) rfl k))) ?_
  obtain ⟨T15, h15, X15, e15, W15, st15⟩ := putFN X10 hx hZ hown (ow145 hw) Via.refl (rfl : T10.heap = T10.heap) fp1 fp0 (Or.inr ⟨(ow146 hw), rfl, hnm⟩) (ow36 hw) (ty := .boolean) (v' := (.int (0 : Int32))) own_fd3 rfl (by decide) (g := (mkF m 22 #[rv a1, iv (0 : Int32), rv w11] [(.int (0 : Int32)), (.ref a1)])) rfl rfl (hb hby d8_22)
  refine own_goW st15 ?_
  clear st15 X10
  replace N0 := Fr.snoc X15 N0 big_a1
  replace hJ := own_Jwr hZ hJ W15 (own_farE fp0 (by decide) (ow36 hw))
  have ne16 : b6 ≠ a1 := (ne_exa g16 fp0 (by decide))
  have ne17 : t6 ≠ a1 := (Ne.symm (Exa.neArv fp0 g46 (ow36 hw)))
  replace fp0 := fp0.wr W15
  replace fp1 := fp1.same W15
  replace fp2 := fp2.other W15 (.inr (own_sn4 hw))
  replace g16 := g16.wr W15
  replace g26 := g26.other W15 (Or.inl ne16)
  replace g36 := g36.other W15 (Or.inl ne16)
  replace g46 := g46.other W15 ne17
  replace f12 := f12.wr W15
  replace O0 := own_oldWr O0 W15 big_a1
  replace K0 := K0.wr W15 (Or.inl (List.mem_of_getElem? (i := 0) rfl))
  replace hS := own_since hS (Nat.le_of_eq W15.size.symm)
  clear W15
  refine own_goW (fun _ k => XS.aloadN X15.here hx rfl (hb hby d8_25) rfl rfl (XS.aloadN X15.here hx rfl (hb hby d8_26) rfl rfl k)) ?_
  show own_GoW p e below s _ _ _ _ (T15.setTop (mkF m 27 #[rv a1, iv (0 : Int32), rv w11] [(.ref w11), (.ref a1)]))
  obtain ⟨T18, h18, X18, e18, W18, st18⟩ := putF X15 hx hZ hown (host := "") (Or.inl (ow147 hw)) Via.refl e15 fp2 fp0 (Or.inr ⟨(ow148 hw), rfl, hnm⟩) (ow36 hw) (ty := (.object "java/lang/String")) own_fd4 rfl rfl (g := (mkF m 27 #[rv a1, iv (0 : Int32), rv w11] [(.ref w11), (.ref a1)])) rfl rfl (hb hby d8_27)
  refine own_goW st18 ?_
  clear st18 X15 e15
  replace N0 := Fr.snoc X18 N0 big_a1
  replace hJ := own_Jwr hZ hJ W18 (own_farE fp0 (by decide) (ow36 hw))
  replace fp0 := fp0.wr W18
  replace fp1 := fp1.other W18 (.inr (own_sn4 hw).symm)
  replace fp2 := fp2.same W18
  replace g16 := g16.wr W18
  replace g26 := g26.other W18 (Or.inl ne16)
  replace g36 := g36.other W18 (Or.inl ne16)
  replace g46 := g46.other W18 ne17
  replace f12 := f12.wr W18
  replace O0 := own_oldWr O0 W18 big_a1
  replace K0 := K0.wr W18 (Or.inl (List.mem_of_getElem? (i := 0) rfl))
  replace hS := own_since hS (Nat.le_of_eq W18.size.symm)
  clear W18
  show own_GoW p e below s _ _ _ _ (T18.setTop (mkF m 30 #[rv a1, iv (0 : Int32), rv w11] []))
  refine own_retVW X18 hS hL hZ hJ hx hlk e18 hret (hb hby d8_30) (by show _ ≤ 26; omega) (by show _ ≤ 420; omega) ?_
  exact ⟨rfl, N0, K0, fp0, fp1⟩
theorem d33_0 : decode prog_66_method_1_code 0 = .ok (.aload_n 0, 1) := by decide +kernel
theorem d33_1 : decode prog_66_method_1_code 1 = .ok (.invokespecial 1, 3) := by decide +kernel
theorem d33_4 : decode prog_66_method_1_code 4 = .ok (.return_, 1) := by decide +kernel
def Q_apinit (Z : State) (zc : Int32) (wsf : Value) (a1 : Addr) (h0 : Heap) (v : Option Value) (h : Heap) (L : List Loc) : Prop := (v = none ∧ Fr Z.heap.size L ∧ h = h0)
theorem ef_apinit (m : MethodId) (x0 : Addr) : entryFrame m #[(.ref x0)] 1 = mkF m 0 #[rv x0] [] := by first | (simp [entryFrame, mkF, argsToLocals, Value.category]; done) | rfl
set_option maxRecDepth 65536 in
set_option maxHeartbeats 40000000 in
theorem rm_apinit (l : Launch) (Z : State) (a0 : Array Value) (hw : own_W Z a0) {zc : Int32} {wsf : Value} (hO : own_Olds Z zc wsf) (ws : List Jvm.Cond) (a1 : Addr) (h0 : Heap) (O0 : Ext Z.heap h0) :
    own_MF l Z h0 own_y50 prog_66_method_1_code 1 none ({ frames := 2, cells := 0, slots := 0, locals := 24 } : Room) #[(.ref a1)] (Q_apinit Z zc wsf a1 h0) ws := by
  refine own_met (Q := (Q_apinit Z zc wsf a1 h0)) _ _ (plainFor_of_name own_pn_11) ?_
  intro p e s m below meth c T X0 hx hby hml hret hlk hZ hown hnm e0
  replace hown : s.vm.findClass "com/example/ibex/ibex/model/ColumnType$ApproximateNumbers" = some m.cls := hown
  replace hnm : meth.name = "<init>" := hnm
  have hml : c.maxLocals = 1 := hml
  obtain ⟨oCS, oCz, oSF, r_wsf⟩ := id hO
  have N0 := Fr.nil Z.heap.size
  have K0 := Keep.refl h0 []
  refine own_go (fun _ k => castTop (ef_apinit m a1) k) ?_
  show own_Go p e below s _ _ _ (T.setTop (mkF m 0 #[rv a1] []))
  refine own_go (fun _ k => XS.aloadN X0.here hx rfl (hb hby d33_0) rfl rfl k) ?_
  obtain ⟨v1, T1, L1, X1, hQ1, st1⟩ := own_callI (y := own_y47) X0 hx hZ hown (ow155 hw) (ow42 hw) (ow44 hw) (ow45 hw) (rm_recinit l Z a0 hw hO [] a1 h0 O0) 0 0 0 rfl (by show _ ≤ 0; omega) (by show _ ≤ 0; omega) e0 (g := (mkF m 1 #[rv a1] [(.ref a1)])) rfl (by rw [hml]; rfl) a1 [] [] (lenOf own_pd_28 rfl) rfl rfl (hb hby d33_1)
  obtain ⟨rfl, Nc3, Kc2⟩ := hQ1
  refine own_go st1 ?_
  clear st1 X0 e0
  replace N0 := Fr.app N0 Nc3
  clear Nc3
  show own_Go p e below s _ _ _ (T1.setTop (mkF m 4 #[rv a1] []))
  refine own_retV X1 hx hlk Kc2 hret (hb hby d33_4) (by show _ ≤ 0; omega) (by show _ ≤ 0; omega) ?_
  exact ⟨rfl, N0, rfl⟩
theorem d35_0 : decode prog_69_method_10_code 0 = .ok (.aload_n 0, 1) := by decide +kernel
theorem d35_1 : decode prog_69_method_10_code 1 = .ok (.getfield 21, 3) := by decide +kernel
theorem d35_4 : decode prog_69_method_10_code 4 = .ok (.ireturn, 1) := by decide +kernel
def Q_cstr0 (Z : State) (zc : Int32) (wsf : Value) (a1 : Addr) (h0 : Heap) (v : Option Value) (h : Heap) (L : List Loc) : Prop := (v = some (.int (0 : Int32)) ∧ Fr Z.heap.size L ∧ h = h0)
theorem ef_cstr0 (m : MethodId) (x0 : Addr) : entryFrame m #[(.ref x0)] 1 = mkF m 0 #[rv x0] [] := by first | (simp [entryFrame, mkF, argsToLocals, Value.category]; done) | rfl
set_option maxRecDepth 65536 in
set_option maxHeartbeats 40000000 in
theorem rm_cstr0 (l : Launch) (Z : State) (a0 : Array Value) (hw : own_W Z a0) {zc : Int32} {wsf : Value} (hO : own_Olds Z zc wsf) (ws : List Jvm.Cond) (a1 : Addr) (h0 : Heap) (O0 : Ext Z.heap h0) (fp0 : Fld Z h0 a1 "com/example/ibex/ibex/model/Constant" "string" "Z" (.int (0 : Int32))) :
    own_MF l Z h0 own_y51 prog_69_method_10_code 1 (some .boolean) ({ frames := 0, cells := 0, slots := 0, locals := 0 } : Room) #[(.ref a1)] (Q_cstr0 Z zc wsf a1 h0) ws := by
  refine own_met (Q := (Q_cstr0 Z zc wsf a1 h0)) _ _ (plainFor_of_name own_pn_5) ?_
  intro p e s m below meth c T X0 hx hby hml hret hlk hZ hown hnm e0
  replace hown : s.vm.findClass "com/example/ibex/ibex/model/Constant" = some m.cls := hown
  replace hnm : meth.name = "string" := hnm
  have hml : c.maxLocals = 1 := hml
  obtain ⟨oCS, oCz, oSF, r_wsf⟩ := id hO
  have N0 := Fr.nil Z.heap.size
  have K0 := Keep.refl h0 []
  refine own_go (fun _ k => castTop (ef_cstr0 m a1) k) ?_
  show own_Go p e below s _ _ _ (T.setTop (mkF m 0 #[rv a1] []))
  refine own_go (fun _ k => XS.aloadN X0.here hx rfl (hb hby d35_0) rfl rfl k) ?_
  obtain ⟨T1, X1, e1, st1⟩ := getF X0 hx hZ hown (host := "") (Or.inl (ow145 hw)) Via.refl e0 (fp0.keep K0 nin0) (g := (mkF m 1 #[rv a1] [(.ref a1)])) rfl rfl (hb hby d35_1)
  refine own_go st1 ?_
  clear st1 X0 e0
  show own_Go p e below s _ _ _ (T1.setTop (mkF m 4 #[rv a1] [(.int (0 : Int32))]))
  refine own_retN X1 hx hlk e1 (t := .boolean) hret (by simp) (hb hby d35_4) (by show _ ≤ 0; omega) (by show _ ≤ 0; omega) ?_
  exact ⟨rfl, N0, rfl⟩
def Q_cstr1 (Z : State) (zc : Int32) (wsf : Value) (a1 : Addr) (h0 : Heap) (v : Option Value) (h : Heap) (L : List Loc) : Prop := (v = some (.int (1 : Int32)) ∧ Fr Z.heap.size L ∧ h = h0)
theorem ef_cstr1 (m : MethodId) (x0 : Addr) : entryFrame m #[(.ref x0)] 1 = mkF m 0 #[rv x0] [] := by first | (simp [entryFrame, mkF, argsToLocals, Value.category]; done) | rfl
set_option maxRecDepth 65536 in
set_option maxHeartbeats 40000000 in
theorem rm_cstr1 (l : Launch) (Z : State) (a0 : Array Value) (hw : own_W Z a0) {zc : Int32} {wsf : Value} (hO : own_Olds Z zc wsf) (ws : List Jvm.Cond) (a1 : Addr) (h0 : Heap) (O0 : Ext Z.heap h0) (fp0 : Fld Z h0 a1 "com/example/ibex/ibex/model/Constant" "string" "Z" (.int (1 : Int32))) :
    own_MF l Z h0 own_y51 prog_69_method_10_code 1 (some .boolean) ({ frames := 0, cells := 0, slots := 0, locals := 0 } : Room) #[(.ref a1)] (Q_cstr1 Z zc wsf a1 h0) ws := by
  refine own_met (Q := (Q_cstr1 Z zc wsf a1 h0)) _ _ (plainFor_of_name own_pn_5) ?_
  intro p e s m below meth c T X0 hx hby hml hret hlk hZ hown hnm e0
  replace hown : s.vm.findClass "com/example/ibex/ibex/model/Constant" = some m.cls := hown
  replace hnm : meth.name = "string" := hnm
  have hml : c.maxLocals = 1 := hml
  obtain ⟨oCS, oCz, oSF, r_wsf⟩ := id hO
  have N0 := Fr.nil Z.heap.size
  have K0 := Keep.refl h0 []
  refine own_go (fun _ k => castTop (ef_cstr1 m a1) k) ?_
  show own_Go p e below s _ _ _ (T.setTop (mkF m 0 #[rv a1] []))
  refine own_go (fun _ k => XS.aloadN X0.here hx rfl (hb hby d35_0) rfl rfl k) ?_
  obtain ⟨T1, X1, e1, st1⟩ := getF X0 hx hZ hown (host := "") (Or.inl (ow145 hw)) Via.refl e0 (fp0.keep K0 nin0) (g := (mkF m 1 #[rv a1] [(.ref a1)])) rfl rfl (hb hby d35_1)
  refine own_go st1 ?_
  clear st1 X0 e0
  show own_Go p e below s _ _ _ (T1.setTop (mkF m 4 #[rv a1] [(.int (1 : Int32))]))
  refine own_retN X1 hx hlk e1 (t := .boolean) hret (by simp) (hb hby d35_4) (by show _ ≤ 0; omega) (by show _ ≤ 0; omega) ?_
  exact ⟨rfl, N0, rfl⟩
theorem d34_0 : decode prog_66_method_2_code 0 = .ok (.aload_n 1, 1) := by decide +kernel
theorem d34_1 : decode prog_66_method_2_code 1 = .ok (.invokevirtual 7, 3) := by decide +kernel
theorem d34_4 : decode prog_66_method_2_code 4 = .ok (.ifCond .ne 7, 3) := by decide +kernel
theorem d34_7 : decode prog_66_method_2_code 7 = .ok (.iconst 1, 1) := by decide +kernel
theorem d34_8 : decode prog_66_method_2_code 8 = .ok (.goto 4, 3) := by decide +kernel
theorem d34_12 : decode prog_66_method_2_code 12 = .ok (.ireturn, 1) := by decide +kernel
def Q_holds0 (Z : State) (zc : Int32) (wsf : Value) (a1 : Addr) (a2 : Addr) (h0 : Heap) (v : Option Value) (h : Heap) (L : List Loc) : Prop := (v = some (.int (1 : Int32)) ∧ Fr Z.heap.size L ∧ h = h0)
theorem ef_holds0 (m : MethodId) (x0 : Addr) (x1 : Addr) : entryFrame m #[(.ref x0), (.ref x1)] 2 = mkF m 0 #[rv x0, rv x1] [] := by first | (simp [entryFrame, mkF, argsToLocals, Value.category]; done) | rfl
set_option maxRecDepth 65536 in
set_option maxHeartbeats 40000000 in
theorem rm_holds0 (l : Launch) (Z : State) (a0 : Array Value) (hw : own_W Z a0) {zc : Int32} {wsf : Value} (hO : own_Olds Z zc wsf) (ws : List Jvm.Cond) (a1 : Addr) (a2 : Addr) (h0 : Heap) (O0 : Ext Z.heap h0) (fp0 : Exa Z h0 a2 "com/example/ibex/ibex/model/Constant") (fp1 : Fld Z h0 a2 "com/example/ibex/ibex/model/Constant" "string" "Z" (.int (0 : Int32))) :
    own_MF l Z h0 own_y52 prog_66_method_2_code 2 (some .boolean) ({ frames := 1, cells := 0, slots := 0, locals := 12 } : Room) #[(.ref a1), (.ref a2)] (Q_holds0 Z zc wsf a1 a2 h0) ws := by
  refine own_met (Q := (Q_holds0 Z zc wsf a1 a2 h0)) _ _ (plainFor_of_name own_pn_11) ?_
  intro p e s m below meth c T X0 hx hby hml hret hlk hZ hown hnm e0
  replace hown : s.vm.findClass "com/example/ibex/ibex/model/ColumnType$ApproximateNumbers" = some m.cls := hown
  replace hnm : meth.name = "holds" := hnm
  have hml : c.maxLocals = 2 := hml
  obtain ⟨oCS, oCz, oSF, r_wsf⟩ := id hO
  have N0 := Fr.nil Z.heap.size
  have K0 := Keep.refl h0 []
  refine own_go (fun _ k => castTop (ef_holds0 m a1 a2) k) ?_
  show own_Go p e below s _ _ _ (T.setTop (mkF m 0 #[rv a1, rv a2] []))
  refine own_go (fun _ k => XS.aloadN X0.here hx rfl (hb hby d34_0) rfl rfl k) ?_
  obtain ⟨v1, T1, L1, X1, hQ1, st1⟩ := own_callV (y := own_y51) (z := own_y51) X0 hx hZ hown (ow161 hw) (ow162 hw) (notFace_of_selects (args := #[]) (mvT hZ (ow164 hw))) (ow164 hw) (ow163 hw) (ow37 hw) (ow165 hw) (rm_cstr0 l Z a0 hw hO [] a2 h0 O0 (fp1.keep K0 nin0)) 0 0 0 (by show _ ≤ 0; omega) (by show _ ≤ 0; omega) e0 (fp0.keep K0) (g := (mkF m 1 #[rv a1, rv a2] [(.ref a2)])) rfl (by rw [hml]; rfl) [] [] (lenOf own_pd_4 rfl) rfl rfl (hb hby d34_1)
  obtain ⟨rfl, Nc3, Kc2⟩ := hQ1
  refine own_go st1 ?_
  clear st1 X0 e0
  replace N0 := Fr.app N0 Nc3
  clear Nc3
  refine own_go (fun _ k => XS.ifNo X1.here hx rfl (hb hby d34_4) rfl ((if0 _ _).trans (teq (by decide : (0 : Int32) = (0 : Int32))).2) (XS.iconst X1.here hx rfl (hb hby d34_7) (XS.goto X1.here hx rfl (pc0 := 8) (pc' := 12) rfl (hb hby d34_8) (by decide) (by decide) k))) ?_
  show own_Go p e below s _ _ _ (T1.setTop (mkF m 12 #[rv a1, rv a2] [(.int (1 : Int32))]))
  refine own_retN X1 hx hlk Kc2 (t := .boolean) hret (by simp) (hb hby d34_12) (by show _ ≤ 0; omega) (by show _ ≤ 0; omega) ?_
  exact ⟨rfl, N0, rfl⟩
theorem d34_11 : decode prog_66_method_2_code 11 = .ok (.iconst 0, 1) := by decide +kernel
def Q_holds1 (Z : State) (zc : Int32) (wsf : Value) (a1 : Addr) (a2 : Addr) (h0 : Heap) (v : Option Value) (h : Heap) (L : List Loc) : Prop := (v = some (.int (0 : Int32)) ∧ Fr Z.heap.size L ∧ h = h0)
theorem ef_holds1 (m : MethodId) (x0 : Addr) (x1 : Addr) : entryFrame m #[(.ref x0), (.ref x1)] 2 = mkF m 0 #[rv x0, rv x1] [] := by first | (simp [entryFrame, mkF, argsToLocals, Value.category]; done) | rfl
set_option maxRecDepth 65536 in
set_option maxHeartbeats 40000000 in
theorem rm_holds1 (l : Launch) (Z : State) (a0 : Array Value) (hw : own_W Z a0) {zc : Int32} {wsf : Value} (hO : own_Olds Z zc wsf) (ws : List Jvm.Cond) (a1 : Addr) (a2 : Addr) (h0 : Heap) (O0 : Ext Z.heap h0) (fp0 : Exa Z h0 a2 "com/example/ibex/ibex/model/Constant") (fp1 : Fld Z h0 a2 "com/example/ibex/ibex/model/Constant" "string" "Z" (.int (1 : Int32))) :
    own_MF l Z h0 own_y52 prog_66_method_2_code 2 (some .boolean) ({ frames := 1, cells := 0, slots := 0, locals := 12 } : Room) #[(.ref a1), (.ref a2)] (Q_holds1 Z zc wsf a1 a2 h0) ws := by
  refine own_met (Q := (Q_holds1 Z zc wsf a1 a2 h0)) _ _ (plainFor_of_name own_pn_11) ?_
  intro p e s m below meth c T X0 hx hby hml hret hlk hZ hown hnm e0
  replace hown : s.vm.findClass "com/example/ibex/ibex/model/ColumnType$ApproximateNumbers" = some m.cls := hown
  replace hnm : meth.name = "holds" := hnm
  have hml : c.maxLocals = 2 := hml
  obtain ⟨oCS, oCz, oSF, r_wsf⟩ := id hO
  have N0 := Fr.nil Z.heap.size
  have K0 := Keep.refl h0 []
  refine own_go (fun _ k => castTop (ef_holds1 m a1 a2) k) ?_
  show own_Go p e below s _ _ _ (T.setTop (mkF m 0 #[rv a1, rv a2] []))
  refine own_go (fun _ k => XS.aloadN X0.here hx rfl (hb hby d34_0) rfl rfl k) ?_
  obtain ⟨v1, T1, L1, X1, hQ1, st1⟩ := own_callV (y := own_y51) (z := own_y51) X0 hx hZ hown (ow161 hw) (ow162 hw) (notFace_of_selects (args := #[]) (mvT hZ (ow164 hw))) (ow164 hw) (ow163 hw) (ow37 hw) (ow165 hw) (rm_cstr1 l Z a0 hw hO [] a2 h0 O0 (fp1.keep K0 nin0)) 0 0 0 (by show _ ≤ 0; omega) (by show _ ≤ 0; omega) e0 (fp0.keep K0) (g := (mkF m 1 #[rv a1, rv a2] [(.ref a2)])) rfl (by rw [hml]; rfl) [] [] (lenOf own_pd_4 rfl) rfl rfl (hb hby d34_1)
  obtain ⟨rfl, Nc3, Kc2⟩ := hQ1
  refine own_go st1 ?_
  clear st1 X0 e0
  replace N0 := Fr.app N0 Nc3
  clear Nc3
  refine own_go (fun _ k => XS.ifYes X1.here hx rfl (pc0 := 4) (pc' := 11) rfl (hb hby d34_4) rfl ((if0 _ _).trans (feq (by decide : ¬ ((1 : Int32) = (0 : Int32)))).2) (by decide) (by decide) (XS.iconst X1.here hx rfl (hb hby d34_11) k)) ?_
  show own_Go p e below s _ _ _ (T1.setTop (mkF m 12 #[rv a1, rv a2] [(.int (0 : Int32))]))
  refine own_retN X1 hx hlk Kc2 (t := .boolean) hret (by simp) (hb hby d34_12) (by show _ ≤ 0; omega) (by show _ ≤ 0; omega) ?_
  exact ⟨rfl, N0, rfl⟩
def Q_law (Z : State) (zc : Int32) (wsf : Value) (p1 : Int32) (p2 : Int32) (p3 : Int32) (p4 : Int32) (h0 : Heap) (v : Option Value) (h : Heap) (L : List Loc) : Prop := (v = some (.int (1 : Int32)) ∧ Fr Z.heap.size L ∧ Keep h0 h [])
set_option maxRecDepth 65536 in
set_option maxHeartbeats 40000000 in
theorem sg_s335s {l : Launch} {Z : State} {a0 : Array Value} (hw : own_W Z a0) {zc : Int32} {wsf : Value} (hO : own_Olds Z zc wsf) {p : Program} {e : Env} {s : State} {vm0 : Vm} {m : MethodId} {args : Array Value} {below : List Frame} {meth : Method} {c : Code} {T : State} {locs : List Loc} {cells slots : Nat} (p1 : Int32) (p2 : Int32) (p3 : Int32) (p4 : Int32) (tx : Addr) (ya : Int32) (yb : Int32) (yc : Int32) (yd : Int32) (h0 hs1 : Heap)
    (X0 : Stand p l e room_1 (s.setVm vm0) m args below meth c T locs cells slots) (hS : s.Since vm0 hs1.size) (hL : own_L Z a0) (hJ : own_J Z vm0 hs1) (hx : p.tables.exec = Jvm.exec) (hby : c.code = code) (hml : c.maxLocals = 10) (hret : meth.sig.returnType = some .boolean) (hlk : meth.locks = false) (hZ : Z.Warmed39 (s.setVm vm0).vm) (hown : (s.setVm vm0).vm.findClass "com/example/ibex/ibex/model/ApproximateNumbersHoldsPinLaw" = some m.cls) (hnm : meth.name = "law") (e0 : T.heap = hs1) (N0 : Fr Z.heap.size locs) (O0 : Ext Z.heap hs1) (K0 : Keep h0 hs1 []) (fp0 : Exa Z hs1 tx "java/lang/String") (hcells : cells ≤ 12) (hslots : slots ≤ 100) :
    own_GoW p e below s Z (Q_law Z zc wsf p1 p2 p3 p4 h0) room_1.cells room_1.slots (T.setTop (mkF m 335 #[iv p1, iv p2, iv p3, iv p4, iv (1 : Int32), rv tx, iv ya, iv yb, iv yc, iv yd] [])) := by
  obtain ⟨oCS, oCz, oSF, r_wsf⟩ := id hO
  have K1 := Keep.refl hs1 []
  show own_GoW p e below s _ _ _ _ (T.setTop (mkF m 335 #[iv p1, iv p2, iv p3, iv p4, iv (1 : Int32), rv tx, iv ya, iv yb, iv yc, iv yd] []))
  obtain ⟨T1, h1, X1, e1, E1, A1, D1, -, st1⟩ := newO X0 hx hZ hown (ow35 hw) (ow36 hw) (ow37 hw) e0 (g := (mkF m 335 #[iv p1, iv p2, iv p3, iv p4, iv (1 : Int32), rv tx, iv ya, iv yb, iv yc, iv yd] [])) rfl (hb hby at_335) (by show _ ≤ 40; omega) (by show _ ≤ 4288; omega)
  obtain ⟨b1, g1⟩ : ∃ z, z = hs1.size := ⟨_, rfl⟩
  rw [← g1] at A1 D1 st1
  refine own_goW st1 ?_
  clear st1 X0 e0
  have ge1 := Nat.le_of_eq g1.symm
  have big2 : Z.heap.size ≤ b1 := Nat.le_trans O0.1 ge1
  have sz3 : h0.size ≤ b1 := Nat.le_trans K0.1 ge1
  have sz4 : hs1.size ≤ b1 := Nat.le_trans K1.1 ge1
  replace O0 := own_oldExt O0 E1
  replace K0 := K0.ext E1
  replace K1 := K1.ext E1
  replace hS := own_since hS E1.1
  replace hJ := own_Jext hJ E1
  clear E1
  have f5 : Fld Z h1 b1 "com/example/ibex/ibex/model/Constant" "string" "Z" (.int (0 : Int32)) := D1 (Or.inr (ow146 hw)) (ty := .boolean) own_fd3
  have f6 : Fld Z h1 b1 "com/example/ibex/ibex/model/Constant" "text" "Ljava/lang/String;" .null := D1 (Or.inr (ow148 hw)) (ty := (.object "java/lang/String")) own_fd4
  refine own_goW (fun _ k => XS.dup X1.here hx rfl (hb hby at_338) rfl rfl (XS.iload X1.here hx rfl (hb hby at_339) rfl (XS.aload X1.here hx rfl (hb hby at_341) rfl rfl k))) ?_
  obtain ⟨v7, T7, L7, X7, hSn, hZn, hownn, hQ7, hJn, st7⟩ := own_callIW (y := own_y49) X1 hS hL hJ hx hZ hown (ow38 hw) (ow39 hw) (ow37 hw) (ow40 hw) (rm_cinit1 l Z a0 hw hO [] b1 tx h1 O0 A1 f5 f6 big2) 1 2 20 rfl (by show _ ≤ 40; omega) (by show _ ≤ 4288; omega) e1 (g := (mkF m 343 #[iv p1, iv p2, iv p3, iv p4, iv (1 : Int32), rv tx, iv ya, iv yb, iv yc, iv yd] [(.ref tx), (.int (1 : Int32)), (.ref b1), (.ref b1)])) rfl (by rw [hml]; rfl) b1 [(.int (1 : Int32)), (.ref tx)] [(.ref b1)] (lenOf own_pd_37 rfl) rfl rfl (hb hby at_343)
  replace hS := hSn
  replace hZ := hZn
  replace hown := hownn
  replace hJ := hJn
  clear hSn hZn hownn hJn
  obtain ⟨rfl, Nc11, Kc10, f8, f9⟩ := hQ7
  refine own_goW st7 ?_
  clear st7 X1 e1
  replace N0 := Fr.app N0 Nc11
  clear Nc11
  replace A1 := A1.keep Kc10
  clear f5
  clear f6
  replace O0 := own_oldKeep O0 Kc10 (allS big2 all0)
  replace K0 := K0.trans Kc10 (allS (Or.inr sz3) all0)
  replace K1 := K1.trans Kc10 (allS (Or.inr sz4) all0)
  clear Kc10
  refine own_goW (fun _ k => XS.astore X7.here hx rfl (hb hby at_346) rfl rfl (l' := #[iv p1, iv p2, iv p3, iv p4, iv (1 : Int32), rv tx, rv b1, iv yb, iv yc, iv yd]) rfl k) ?_
  obtain ⟨T12, h12, X12, e12, E12, A12, D12, -, st12⟩ := newO X7 hx hZ hown (ow149 hw) (ow150 hw) (ow151 hw) (rfl : T7.heap = T7.heap) (g := (mkF m 348 #[iv p1, iv p2, iv p3, iv p4, iv (1 : Int32), rv tx, rv b1, iv yb, iv yc, iv yd] [])) rfl (hb hby at_348) (by show _ ≤ 40; omega) (by show _ ≤ 4288; omega)
  obtain ⟨b12, g12⟩ : ∃ z, z = T7.heap.size := ⟨_, rfl⟩
  rw [← g12] at A12 D12 st12
  refine own_goW st12 ?_
  clear st12 X7
  have ge12 := Nat.le_of_eq g12.symm
  have ne13 : b1 ≠ b12 := Nat.ne_of_lt (Nat.lt_of_lt_of_le f8.lt ge12)
  have big14 : Z.heap.size ≤ b12 := Nat.le_trans O0.1 ge12
  have sz15 : h0.size ≤ b12 := Nat.le_trans K0.1 ge12
  have sz16 : hs1.size ≤ b12 := Nat.le_trans K1.1 ge12
  replace f8 := f8.ext E12
  replace f9 := f9.ext E12
  replace O0 := own_oldExt O0 E12
  replace K0 := K0.ext E12
  replace K1 := K1.ext E12
  replace hS := own_since hS E12.1
  replace hJ := own_Jext hJ E12
  clear E12
  refine own_goW (fun _ k => XS.dup X12.here hx rfl (hb hby at_351) rfl rfl k) ?_
  show own_GoW p e below s _ _ _ _ (T12.setTop (mkF m 352 #[iv p1, iv p2, iv p3, iv p4, iv (1 : Int32), rv tx, rv b1, iv yb, iv yc, iv yd] [(.ref b12), (.ref b12)]))
  obtain ⟨v17, T17, L17, X17, hQ17, st17⟩ := own_callI (y := own_y50) X12 hx hZ hown (ow152 hw) (ow153 hw) (ow151 hw) (ow154 hw) (rm_apinit l Z a0 hw hO [] b12 h12 O0) 1 0 0 rfl (by show _ ≤ 40; omega) (by show _ ≤ 4288; omega) e12 (g := (mkF m 352 #[iv p1, iv p2, iv p3, iv p4, iv (1 : Int32), rv tx, rv b1, iv yb, iv yc, iv yd] [(.ref b12), (.ref b12)])) rfl (by rw [hml]; rfl) b12 [] [(.ref b12)] (lenOf own_pd_28 rfl) rfl rfl (hb hby at_352)
  obtain ⟨rfl, Nc19, Kc18⟩ := hQ17
  refine own_goW st17 ?_
  clear st17 X12 e12
  replace N0 := Fr.app N0 Nc19
  clear Nc19
  refine own_goW (fun _ k => XS.astore X17.here hx rfl (hb hby at_355) rfl rfl (l' := #[iv p1, iv p2, iv p3, iv p4, iv (1 : Int32), rv tx, rv b1, rv b12, iv yc, iv yd]) rfl (XS.aload X17.here hx rfl (hb hby at_357) rfl rfl (XS.aload X17.here hx rfl (hb hby at_359) rfl rfl k))) ?_
  obtain ⟨v20, T20, L20, X20, hQ20, st20⟩ := own_callV (y := own_y52) (z := own_y52) X17 hx hZ hown (ow156 hw) (ow157 hw) (notFace_of_selects (args := #[]) (mvT hZ (ow159 hw))) (ow159 hw) (ow158 hw) (ow151 hw) (ow160 hw) (rm_holds1 l Z a0 hw hO [] b12 b1 h12 O0 f8 f9) 0 0 0 (by show _ ≤ 40; omega) (by show _ ≤ 4288; omega) Kc18 A12 (g := (mkF m 361 #[iv p1, iv p2, iv p3, iv p4, iv (1 : Int32), rv tx, rv b1, rv b12, iv yc, iv yd] [(.ref b1), (.ref b12)])) rfl (by rw [hml]; rfl) [(.ref b1)] [] (lenOf own_pd_38 rfl) rfl rfl (hb hby at_361)
  obtain ⟨rfl, Nc22, Kc21⟩ := hQ20
  refine own_goW st20 ?_
  clear st20 X17 Kc18
  replace N0 := Fr.app N0 Nc22
  clear Nc22
  refine own_goW (fun _ k => XS.iload X20.here hx rfl (hb hby at_364) rfl (XS.ifYes X20.here hx rfl (pc0 := 366) (pc' := 373) rfl (hb hby at_366) rfl ((if0 _ _).trans (feq (by decide : ¬ ((1 : Int32) = (0 : Int32)))).2) (by decide) (by decide) (XS.iconst X20.here hx rfl (hb hby at_373) k))) ?_
  show own_GoW p e below s _ _ _ _ (T20.setTop (mkF m 374 #[iv p1, iv p2, iv p3, iv p4, iv (1 : Int32), rv tx, rv b1, rv b12, iv yc, iv yd] [(.int (0 : Int32)), (.int (0 : Int32))]))
  refine own_goW (fun _ k => XS.icmpNo X20.here hx rfl (hb hby at_374) rfl (teq (by decide : (0 : Int32) = (0 : Int32))).2 (XS.iconst X20.here hx rfl (hb hby at_377) (XS.goto X20.here hx rfl (pc0 := 378) (pc' := 382) rfl (hb hby at_378) (by decide) (by decide) k))) ?_
  show own_GoW p e below s _ _ _ _ (T20.setTop (mkF m 382 #[iv p1, iv p2, iv p3, iv p4, iv (1 : Int32), rv tx, rv b1, rv b12, iv yc, iv yd] [(.int (1 : Int32))]))
  refine own_retNW X20 hS hL hZ hJ hx hlk Kc21 (t := .boolean) hret (by simp) (hb hby at_382) (by show _ ≤ 40; omega) (by show _ ≤ 4288; omega) ?_
  exact ⟨rfl, N0, K0⟩
set_option maxRecDepth 65536 in
set_option maxHeartbeats 40000000 in
theorem sg_s335n {l : Launch} {Z : State} {a0 : Array Value} (hw : own_W Z a0) {zc : Int32} {wsf : Value} (hO : own_Olds Z zc wsf) {p : Program} {e : Env} {s : State} {vm0 : Vm} {m : MethodId} {args : Array Value} {below : List Frame} {meth : Method} {c : Code} {T : State} {locs : List Loc} {cells slots : Nat} (p1 : Int32) (p2 : Int32) (p3 : Int32) (p4 : Int32) (tx : Addr) (ya : Int32) (yb : Int32) (yc : Int32) (yd : Int32) (h0 hs1 : Heap)
    (X0 : Stand p l e room_1 (s.setVm vm0) m args below meth c T locs cells slots) (hS : s.Since vm0 hs1.size) (hL : own_L Z a0) (hJ : own_J Z vm0 hs1) (hx : p.tables.exec = Jvm.exec) (hby : c.code = code) (hml : c.maxLocals = 10) (hret : meth.sig.returnType = some .boolean) (hlk : meth.locks = false) (hZ : Z.Warmed39 (s.setVm vm0).vm) (hown : (s.setVm vm0).vm.findClass "com/example/ibex/ibex/model/ApproximateNumbersHoldsPinLaw" = some m.cls) (hnm : meth.name = "law") (e0 : T.heap = hs1) (N0 : Fr Z.heap.size locs) (O0 : Ext Z.heap hs1) (K0 : Keep h0 hs1 []) (fp0 : Exa Z hs1 tx "java/lang/String") (fp1 : own_Num Z hs1 tx) (hcells : cells ≤ 12) (hslots : slots ≤ 100) :
    own_GoW p e below s Z (Q_law Z zc wsf p1 p2 p3 p4 h0) room_1.cells room_1.slots (T.setTop (mkF m 335 #[iv p1, iv p2, iv p3, iv p4, iv (0 : Int32), rv tx, iv ya, iv yb, iv yc, iv yd] [])) := by
  obtain ⟨oCS, oCz, oSF, r_wsf⟩ := id hO
  have K1 := Keep.refl hs1 []
  show own_GoW p e below s _ _ _ _ (T.setTop (mkF m 335 #[iv p1, iv p2, iv p3, iv p4, iv (0 : Int32), rv tx, iv ya, iv yb, iv yc, iv yd] []))
  obtain ⟨T23, h23, X23, e23, E23, A23, D23, -, st23⟩ := newO X0 hx hZ hown (ow35 hw) (ow36 hw) (ow37 hw) e0 (g := (mkF m 335 #[iv p1, iv p2, iv p3, iv p4, iv (0 : Int32), rv tx, iv ya, iv yb, iv yc, iv yd] [])) rfl (hb hby at_335) (by show _ ≤ 40; omega) (by show _ ≤ 4288; omega)
  obtain ⟨b23, g23⟩ : ∃ z, z = hs1.size := ⟨_, rfl⟩
  rw [← g23] at A23 D23 st23
  refine own_goW st23 ?_
  clear st23 X0 e0
  have ge23 := Nat.le_of_eq g23.symm
  have big24 : Z.heap.size ≤ b23 := Nat.le_trans O0.1 ge23
  have sz25 : h0.size ≤ b23 := Nat.le_trans K0.1 ge23
  have sz26 : hs1.size ≤ b23 := Nat.le_trans K1.1 ge23
  replace O0 := own_oldExt O0 E23
  replace K0 := K0.ext E23
  replace K1 := K1.ext E23
  replace hS := own_since hS E23.1
  replace hJ := own_Jext hJ E23
  clear E23
  have f27 : Fld Z h23 b23 "com/example/ibex/ibex/model/Constant" "string" "Z" (.int (0 : Int32)) := D23 (Or.inr (ow146 hw)) (ty := .boolean) own_fd3
  have f28 : Fld Z h23 b23 "com/example/ibex/ibex/model/Constant" "text" "Ljava/lang/String;" .null := D23 (Or.inr (ow148 hw)) (ty := (.object "java/lang/String")) own_fd4
  refine own_goW (fun _ k => XS.dup X23.here hx rfl (hb hby at_338) rfl rfl (XS.iload X23.here hx rfl (hb hby at_339) rfl (XS.aload X23.here hx rfl (hb hby at_341) rfl rfl k))) ?_
  obtain ⟨v29, T29, L29, X29, hSn, hZn, hownn, hQ29, hJn, st29⟩ := own_callIW (y := own_y49) X23 hS hL hJ hx hZ hown (ow38 hw) (ow39 hw) (ow37 hw) (ow40 hw) (rm_cinit0 l Z a0 hw hO [] b23 tx h23 O0 A23 f27 f28 (fp0.keep K1) (own_NumK fp1 fp0 K1 all0) big24) 1 26 420 rfl (by show _ ≤ 40; omega) (by show _ ≤ 4288; omega) e23 (g := (mkF m 343 #[iv p1, iv p2, iv p3, iv p4, iv (0 : Int32), rv tx, iv ya, iv yb, iv yc, iv yd] [(.ref tx), (.int (0 : Int32)), (.ref b23), (.ref b23)])) rfl (by rw [hml]; rfl) b23 [(.int (0 : Int32)), (.ref tx)] [(.ref b23)] (lenOf own_pd_37 rfl) rfl rfl (hb hby at_343)
  replace hS := hSn
  replace hZ := hZn
  replace hown := hownn
  replace hJ := hJn
  clear hSn hZn hownn hJn
  obtain ⟨rfl, Nc33, Kc32, f30, f31⟩ := hQ29
  refine own_goW st29 ?_
  clear st29 X23 e23
  replace N0 := Fr.app N0 Nc33
  clear Nc33
  replace A23 := A23.keep Kc32
  clear f27
  clear f28
  replace O0 := own_oldKeep O0 Kc32 (allS big24 all0)
  replace K0 := K0.trans Kc32 (allS (Or.inr sz25) all0)
  replace K1 := K1.trans Kc32 (allS (Or.inr sz26) all0)
  clear Kc32
  refine own_goW (fun _ k => XS.astore X29.here hx rfl (hb hby at_346) rfl rfl (l' := #[iv p1, iv p2, iv p3, iv p4, iv (0 : Int32), rv tx, rv b23, iv yb, iv yc, iv yd]) rfl k) ?_
  obtain ⟨T34, h34, X34, e34, E34, A34, D34, -, st34⟩ := newO X29 hx hZ hown (ow149 hw) (ow150 hw) (ow151 hw) (rfl : T29.heap = T29.heap) (g := (mkF m 348 #[iv p1, iv p2, iv p3, iv p4, iv (0 : Int32), rv tx, rv b23, iv yb, iv yc, iv yd] [])) rfl (hb hby at_348) (by show _ ≤ 40; omega) (by show _ ≤ 4288; omega)
  obtain ⟨b34, g34⟩ : ∃ z, z = T29.heap.size := ⟨_, rfl⟩
  rw [← g34] at A34 D34 st34
  refine own_goW st34 ?_
  clear st34 X29
  have ge34 := Nat.le_of_eq g34.symm
  have ne35 : b23 ≠ b34 := Nat.ne_of_lt (Nat.lt_of_lt_of_le f30.lt ge34)
  have big36 : Z.heap.size ≤ b34 := Nat.le_trans O0.1 ge34
  have sz37 : h0.size ≤ b34 := Nat.le_trans K0.1 ge34
  have sz38 : hs1.size ≤ b34 := Nat.le_trans K1.1 ge34
  replace f30 := f30.ext E34
  replace f31 := f31.ext E34
  replace O0 := own_oldExt O0 E34
  replace K0 := K0.ext E34
  replace K1 := K1.ext E34
  replace hS := own_since hS E34.1
  replace hJ := own_Jext hJ E34
  clear E34
  refine own_goW (fun _ k => XS.dup X34.here hx rfl (hb hby at_351) rfl rfl k) ?_
  show own_GoW p e below s _ _ _ _ (T34.setTop (mkF m 352 #[iv p1, iv p2, iv p3, iv p4, iv (0 : Int32), rv tx, rv b23, iv yb, iv yc, iv yd] [(.ref b34), (.ref b34)]))
  obtain ⟨v39, T39, L39, X39, hQ39, st39⟩ := own_callI (y := own_y50) X34 hx hZ hown (ow152 hw) (ow153 hw) (ow151 hw) (ow154 hw) (rm_apinit l Z a0 hw hO [] b34 h34 O0) 1 0 0 rfl (by show _ ≤ 40; omega) (by show _ ≤ 4288; omega) e34 (g := (mkF m 352 #[iv p1, iv p2, iv p3, iv p4, iv (0 : Int32), rv tx, rv b23, iv yb, iv yc, iv yd] [(.ref b34), (.ref b34)])) rfl (by rw [hml]; rfl) b34 [] [(.ref b34)] (lenOf own_pd_28 rfl) rfl rfl (hb hby at_352)
  obtain ⟨rfl, Nc41, Kc40⟩ := hQ39
  refine own_goW st39 ?_
  clear st39 X34 e34
  replace N0 := Fr.app N0 Nc41
  clear Nc41
  refine own_goW (fun _ k => XS.astore X39.here hx rfl (hb hby at_355) rfl rfl (l' := #[iv p1, iv p2, iv p3, iv p4, iv (0 : Int32), rv tx, rv b23, rv b34, iv yc, iv yd]) rfl (XS.aload X39.here hx rfl (hb hby at_357) rfl rfl (XS.aload X39.here hx rfl (hb hby at_359) rfl rfl k))) ?_
  obtain ⟨v42, T42, L42, X42, hQ42, st42⟩ := own_callV (y := own_y52) (z := own_y52) X39 hx hZ hown (ow156 hw) (ow157 hw) (notFace_of_selects (args := #[]) (mvT hZ (ow159 hw))) (ow159 hw) (ow158 hw) (ow151 hw) (ow160 hw) (rm_holds0 l Z a0 hw hO [] b34 b23 h34 O0 f30 f31) 0 0 0 (by show _ ≤ 40; omega) (by show _ ≤ 4288; omega) Kc40 A34 (g := (mkF m 361 #[iv p1, iv p2, iv p3, iv p4, iv (0 : Int32), rv tx, rv b23, rv b34, iv yc, iv yd] [(.ref b23), (.ref b34)])) rfl (by rw [hml]; rfl) [(.ref b23)] [] (lenOf own_pd_38 rfl) rfl rfl (hb hby at_361)
  obtain ⟨rfl, Nc44, Kc43⟩ := hQ42
  refine own_goW st42 ?_
  clear st42 X39 Kc40
  replace N0 := Fr.app N0 Nc44
  clear Nc44
  refine own_goW (fun _ k => XS.iload X42.here hx rfl (hb hby at_364) rfl (XS.ifNo X42.here hx rfl (hb hby at_366) rfl ((if0 _ _).trans (teq (by decide : (0 : Int32) = (0 : Int32))).2) (XS.iconst X42.here hx rfl (hb hby at_369) k))) ?_
  show own_GoW p e below s _ _ _ _ (T42.setTop (mkF m 370 #[iv p1, iv p2, iv p3, iv p4, iv (0 : Int32), rv tx, rv b23, rv b34, iv yc, iv yd] [(.int (1 : Int32)), (.int (1 : Int32))]))
  refine own_goW (fun _ k => XS.goto X42.here hx rfl (pc0 := 370) (pc' := 374) rfl (hb hby at_370) (by decide) (by decide) (XS.icmpNo X42.here hx rfl (hb hby at_374) rfl (teq (by decide : (1 : Int32) = (1 : Int32))).2 (XS.iconst X42.here hx rfl (hb hby at_377) (XS.goto X42.here hx rfl (pc0 := 378) (pc' := 382) rfl (hb hby at_378) (by decide) (by decide) k)))) ?_
  show own_GoW p e below s _ _ _ _ (T42.setTop (mkF m 382 #[iv p1, iv p2, iv p3, iv p4, iv (0 : Int32), rv tx, rv b23, rv b34, iv yc, iv yd] [(.int (1 : Int32))]))
  refine own_retNW X42 hS hL hZ hJ hx hlk Kc43 (t := .boolean) hret (by simp) (hb hby at_382) (by show _ ≤ 40; omega) (by show _ ≤ 4288; omega) ?_
  exact ⟨rfl, N0, K0⟩
set_option maxRecDepth 65536 in
set_option maxHeartbeats 40000000 in
theorem sg_s184 {l : Launch} {Z : State} {a0 : Array Value} (hw : own_W Z a0) {zc : Int32} {wsf : Value} (hO : own_Olds Z zc wsf) {p : Program} {e : Env} {s : State} {vm0 : Vm} {m : MethodId} {args : Array Value} {below : List Frame} {meth : Method} {c : Code} {T : State} {locs : List Loc} {cells slots : Nat} (p1 : Int32) (p2 : Int32) (p3 : Int32) (p4 : Int32) (ug : Int32) (uf : Int32) (h0 hs1 : Heap)
    (X0 : Stand p l e room_1 (s.setVm vm0) m args below meth c T locs cells slots) (hS : s.Since vm0 hs1.size) (hL : own_L Z a0) (hJ : own_J Z vm0 hs1) (hx : p.tables.exec = Jvm.exec) (hby : c.code = code) (hml : c.maxLocals = 10) (hret : meth.sig.returnType = some .boolean) (hlk : meth.locks = false) (hZ : Z.Warmed39 (s.setVm vm0).vm) (hown : (s.setVm vm0).vm.findClass "com/example/ibex/ibex/model/ApproximateNumbersHoldsPinLaw" = some m.cls) (hnm : meth.name = "law") (e0 : T.heap = hs1) (N0 : Fr Z.heap.size locs) (O0 : Ext Z.heap hs1) (K0 : Keep h0 hs1 []) (hcells : cells ≤ 0) (hslots : slots ≤ 0) :
    own_GoW p e below s Z (Q_law Z zc wsf p1 p2 p3 p4 h0) room_1.cells room_1.slots (T.setTop (mkF m 184 #[iv p1, iv p2, iv p3, iv p4, iv (0 : Int32), .unset, iv ug, .unset, .unset, .unset] [(.int uf)])) := by
  obtain ⟨oCS, oCz, oSF, r_wsf⟩ := id hO
  have K1 := Keep.refl hs1 []
  show own_GoW p e below s _ _ _ _ (T.setTop (mkF m 184 #[iv p1, iv p2, iv p3, iv p4, iv (0 : Int32), .unset, iv ug, .unset, .unset, .unset] [(.int uf)]))
  refine own_goW (fun _ k => XS.istore X0.here hx rfl (hb hby at_184) rfl (l' := #[iv p1, iv p2, iv p3, iv p4, iv (0 : Int32), .unset, iv ug, iv uf, .unset, .unset]) rfl (XS.iloadN X0.here hx rfl (hb hby at_186) rfl k)) ?_
  obtain ⟨v45, T45, L45, X45, hQ45, st45⟩ := own_callS (y := own_y2) X0 hx hZ hown (ow0 hw) (ow1 hw) (ow2 hw) (ow3 hw) (rm_digit l Z a0 hw hO [] p2 hs1 O0) 0 0 0 (by show _ ≤ 40; omega) (by show _ ≤ 4288; omega) e0 (g := (mkF m 187 #[iv p1, iv p2, iv p3, iv p4, iv (0 : Int32), .unset, iv ug, iv uf, .unset, .unset] [(.int p2)])) rfl (by rw [hml]; rfl) [(.int p2)] [] (lenOf own_pd_12 rfl) rfl rfl (hb hby at_187)
  obtain ⟨w46, rfl, Nc50, hp47, hp48, Kc49⟩ := hQ45
  refine own_goW st45 ?_
  clear st45 X0 e0
  replace N0 := Fr.app N0 Nc50
  clear Nc50
  refine own_goW (fun _ k => XS.istore X45.here hx rfl (hb hby at_190) rfl (l' := #[iv p1, iv p2, iv p3, iv p4, iv (0 : Int32), .unset, iv ug, iv uf, iv w46, .unset]) rfl (XS.iloadN X45.here hx rfl (hb hby at_192) rfl k)) ?_
  obtain ⟨v51, T51, L51, X51, hQ51, st51⟩ := own_callS (y := own_y2) X45 hx hZ hown (ow0 hw) (ow1 hw) (ow2 hw) (ow3 hw) (rm_digit l Z a0 hw hO [] p3 hs1 O0) 0 0 0 (by show _ ≤ 40; omega) (by show _ ≤ 4288; omega) Kc49 (g := (mkF m 193 #[iv p1, iv p2, iv p3, iv p4, iv (0 : Int32), .unset, iv ug, iv uf, iv w46, .unset] [(.int p3)])) rfl (by rw [hml]; rfl) [(.int p3)] [] (lenOf own_pd_12 rfl) rfl rfl (hb hby at_193)
  obtain ⟨w52, rfl, Nc56, hp53, hp54, Kc55⟩ := hQ51
  refine own_goW st51 ?_
  clear st51 X45 Kc49
  replace N0 := Fr.app N0 Nc56
  clear Nc56
  refine own_goW (fun _ k => XS.istore X51.here hx rfl (hb hby at_196) rfl (l' := #[iv p1, iv p2, iv p3, iv p4, iv (0 : Int32), .unset, iv ug, iv uf, iv w46, iv w52]) rfl (XS.iload X51.here hx rfl (hb hby at_198) rfl k)) ?_
  show own_GoW p e below s _ _ _ _ (T51.setTop (mkF m 200 #[iv p1, iv p2, iv p3, iv p4, iv (0 : Int32), .unset, iv ug, iv uf, iv w46, iv w52] [(.int ug)]))
  by_cases hc57 : ug = (0 : Int32)
  · refine own_goW (fun _ k => XS.ifYes X51.here hx rfl (pc0 := 200) (pc' := 243) rfl (hb hby at_200) rfl ((if0 _ _).trans (teq hc57).1) (by decide) (by decide) k) ?_
    show own_GoW p e below s _ _ _ _ (T51.setTop (mkF m 243 #[iv p1, iv p2, iv p3, iv p4, iv (0 : Int32), .unset, iv ug, iv uf, iv w46, iv w52] []))
    refine own_goW (fun _ k => XS.iload X51.here hx rfl (hb hby at_243) rfl (XS.ifYes X51.here hx rfl (pc0 := 245) (pc' := 278) rfl (hb hby at_245) rfl ((if0 _ _).trans (teq hc57).1) (by decide) (by decide) (XS.iload X51.here hx rfl (hb hby at_278) rfl k))) ?_
    by_cases hc58 : uf = (0 : Int32)
    · refine own_goW (fun _ k => XS.ifYes X51.here hx rfl (pc0 := 280) (pc' := 313) rfl (hb hby at_280) rfl ((if0 _ _).trans (teq hc58).1) (by decide) (by decide) k) ?_
      show own_GoW p e below s _ _ _ _ (T51.setTop (mkF m 313 #[iv p1, iv p2, iv p3, iv p4, iv (0 : Int32), .unset, iv ug, iv uf, iv w46, iv w52] []))
      obtain ⟨T59, h59, X59, e59, E59, A59, D59, -, st59⟩ := newO X51 hx hZ hown (ow5 hw) (ow6 hw) (ow7 hw) Kc55 (g := (mkF m 313 #[iv p1, iv p2, iv p3, iv p4, iv (0 : Int32), .unset, iv ug, iv uf, iv w46, iv w52] [])) rfl (hb hby at_313) (by show _ ≤ 40; omega) (by show _ ≤ 4288; omega)
      obtain ⟨b59, g59⟩ : ∃ z, z = hs1.size := ⟨_, rfl⟩
      rw [← g59] at A59 D59 st59
      refine own_goW st59 ?_
      clear st59 X51 Kc55
      have ge59 := Nat.le_of_eq g59.symm
      have big60 : Z.heap.size ≤ b59 := Nat.le_trans O0.1 ge59
      have sz61 : h0.size ≤ b59 := Nat.le_trans K0.1 ge59
      have sz62 : hs1.size ≤ b59 := Nat.le_trans K1.1 ge59
      replace O0 := own_oldExt O0 E59
      replace K0 := K0.ext E59
      replace K1 := K1.ext E59
      replace hS := own_since hS E59.1
      replace hJ := own_Jext hJ E59
      clear E59
      have f63 : Fld Z h59 b59 "java/lang/String" "coder" "B" (.int (0 : Int32)) := D59 (Or.inr (ow32 hw)) (ty := .byte) own_fd1
      have f64 : Fld Z h59 b59 "java/lang/String" "value" "[B" .null := D59 (Or.inr (ow34 hw)) (ty := (.array .byte)) own_fd0
      refine own_goW (fun _ k => XS.dup X59.here hx rfl (hb hby at_316) rfl rfl (XS.iconst X59.here hx rfl (hb hby at_317) k)) ?_
      obtain ⟨T65, h65, k65, X65, e65, E65, A65, st65⟩ := newP (aty := .char) X59 hx hZ (ow8 hw) e59 (g := (mkF m 318 #[iv p1, iv p2, iv p3, iv p4, iv (0 : Int32), .unset, iv ug, iv uf, iv w46, iv w52] [(.int (2 : Int32)), (.ref b59), (.ref b59)])) rfl (hb hby at_318) rfl (by decide) (cap := 2) (by decide) (by decide) (by show _ ≤ 40; omega) (by show _ ≤ 4288; omega)
      obtain ⟨b65, g65⟩ : ∃ z, z = h59.size := ⟨_, rfl⟩
      rw [← g65] at A65 st65
      refine own_goW st65 ?_
      clear st65 X59 e59
      have ge65 := Nat.le_of_eq g65.symm
      have ne66 : b59 ≠ b65 := Nat.ne_of_lt (Nat.lt_of_lt_of_le A59.lt ge65)
      have big67 : Z.heap.size ≤ b65 := Nat.le_trans O0.1 ge65
      have sz68 : h0.size ≤ b65 := Nat.le_trans K0.1 ge65
      have sz69 : hs1.size ≤ b65 := Nat.le_trans K1.1 ge65
      replace A59 := A59.ext E65
      replace f63 := f63.ext E65
      replace f64 := f64.ext E65
      replace O0 := own_oldExt O0 E65
      replace K0 := K0.ext E65
      replace K1 := K1.ext E65
      replace hS := own_since hS E65.1
      replace hJ := own_Jext hJ E65
      clear E65
      have f70 : Arv Z h65 b65 k65 .char (2 : Int32) [(.int (0 : Int32)), (.int (0 : Int32))] (.int (0 : Int32)) := (Arv.new A65 (by decide)).pad (pad_rep [] (.int (0 : Int32)) 2)
      refine own_goW (fun _ k => XS.dup X65.here hx rfl (hb hby at_320) rfl rfl (XS.iconst X65.here hx rfl (hb hby at_321) (XS.iload X65.here hx rfl (hb hby at_322) rfl k))) ?_
      obtain ⟨cl71, Ar71, q71, S71, M71, P71, G71⟩ := id f70
      have hin71 : ¬ ((0 : Int32) < 0 ∨ cl71.slots.size ≤ ((0 : Int32)).toNatClampNeg) := inb_of S71 ⟨by decide, by decide⟩
      obtain ⟨T72, h72, X72, e72, W72, st72⟩ := stC X65 hx hZ e65 Ar71 (j := (0 : Int32)) hin71 (g := (mkF m 324 #[iv p1, iv p2, iv p3, iv p4, iv (0 : Int32), .unset, iv ug, iv uf, iv w46, iv w52] [(.int w46), (.int (0 : Int32)), (.ref b65), (.ref b65), (.ref b59), (.ref b59)])) rfl rfl (hb hby at_324)
      refine own_goW st72 ?_
      clear st72 X65 e65
      rw [own_nar8 hp47] at W72
      have f73 : Arv Z h72 b65 k65 .char (2 : Int32) [(.int w46), (.int (0 : Int32))] (.int (0 : Int32)) := Arv.set Ar71 q71 S71 M71 P71 G71 (by have q := fits_nar_char w46; rw [own_nar8 hp47] at q; exact q) W72 0 rfl (Nat.le_of_ble_eq_true rfl)
      replace N0 := Fr.snoc X72 N0 big67
      replace hJ := own_Jwr hZ hJ W72 (own_farV f70 (by decide) (ow6 hw))
      replace A59 := A59.wr W72
      replace f63 := f63.other W72 (Or.inl ne66)
      replace f64 := f64.other W72 (Or.inl ne66)
      clear f70
      replace O0 := own_oldWr O0 W72 big67
      replace K0 := K0.wr W72 (Or.inr sz68)
      replace K1 := K1.wr W72 (Or.inr sz69)
      replace hS := own_since hS (Nat.le_of_eq W72.size.symm)
      clear W72
      clear Ar71 q71 S71 M71 P71 G71 hin71
      show own_GoW p e below s _ _ _ _ (T72.setTop (mkF m 325 #[iv p1, iv p2, iv p3, iv p4, iv (0 : Int32), .unset, iv ug, iv uf, iv w46, iv w52] [(.ref b65), (.ref b59), (.ref b59)]))
      refine own_goW (fun _ k => XS.dup X72.here hx rfl (hb hby at_325) rfl rfl (XS.iconst X72.here hx rfl (hb hby at_326) (XS.iload X72.here hx rfl (hb hby at_327) rfl k))) ?_
      obtain ⟨cl74, Ar74, q74, S74, M74, P74, G74⟩ := id f73
      have hin74 : ¬ ((1 : Int32) < 0 ∨ cl74.slots.size ≤ ((1 : Int32)).toNatClampNeg) := inb_of S74 ⟨by decide, by decide⟩
      obtain ⟨T75, h75, X75, e75, W75, st75⟩ := stC X72 hx hZ e72 Ar74 (j := (1 : Int32)) hin74 (g := (mkF m 329 #[iv p1, iv p2, iv p3, iv p4, iv (0 : Int32), .unset, iv ug, iv uf, iv w46, iv w52] [(.int w52), (.int (1 : Int32)), (.ref b65), (.ref b65), (.ref b59), (.ref b59)])) rfl rfl (hb hby at_329)
      refine own_goW st75 ?_
      clear st75 X72 e72
      rw [own_nar8 hp53] at W75
      have f76 : Arv Z h75 b65 k65 .char (2 : Int32) [(.int w46), (.int w52)] (.int (0 : Int32)) := Arv.set Ar74 q74 S74 M74 P74 G74 (by have q := fits_nar_char w52; rw [own_nar8 hp53] at q; exact q) W75 1 rfl (Nat.le_of_ble_eq_true rfl)
      replace N0 := Fr.snoc X75 N0 big67
      replace hJ := own_Jwr hZ hJ W75 (own_farV f73 (by decide) (ow6 hw))
      replace A59 := A59.wr W75
      replace f63 := f63.other W75 (Or.inl ne66)
      replace f64 := f64.other W75 (Or.inl ne66)
      clear f73
      replace O0 := own_oldWr O0 W75 big67
      replace K0 := K0.wr W75 (Or.inr sz68)
      replace K1 := K1.wr W75 (Or.inr sz69)
      replace hS := own_since hS (Nat.le_of_eq W75.size.symm)
      clear W75
      clear Ar74 q74 S74 M74 P74 G74 hin74
      obtain ⟨v77, T77, L77, X77, hQ77, st77⟩ := own_callIB (y := own_y1) X75 hx hZ hown (ow9 hw) (ow10 hw) (ow7 hw) (ow11 hw) 1 1 2 (StrChars.Road.backV (W := 1) hZ (own_sw1 hw) (kI := 4) (ow6 hw) (cs := ([w46, w52] : List Int32)) (bs := ([w46, w52] : List Int32).map (fun c => c.toInt8.toInt32)) (n := 2) (n0 := Z.heap.size) big60 (Nat.le_trans O0.1 (Nat.le_refl _)) A59 f64 f63 f76 (oCS.ext O0) oCz rfl rfl (by decide) (by decide) (own_cC hp47 (own_cC hp53 own_cN)) rfl (by decide) (by decide)) rfl (by show _ ≤ 40; omega) (by show _ ≤ 4288; omega) e75 (g := (mkF m 330 #[iv p1, iv p2, iv p3, iv p4, iv (0 : Int32), .unset, iv ug, iv uf, iv w46, iv w52] [(.ref b65), (.ref b59), (.ref b59)])) rfl (by rw [hml]; rfl) b59 [(.ref b65)] [(.ref b59)] (lenOf own_pd_39 rfl) rfl rfl (hb hby at_330)
      obtain ⟨rfl, Nc77, Kc77, f177, f277, t77, kb77, tb77, ts77, tn77, f377, f477⟩ := hQ77
      refine own_goW st77 ?_
      clear st77 X75 e75
      replace N0 := Fr.app N0 Nc77
      clear Nc77
      replace hS := own_since hS Kc77.1
      have ne78 : b59 ≠ t77 := Nat.ne_of_lt (Nat.lt_of_lt_of_le A59.lt ts77)
      have ne79 : b65 ≠ t77 := Nat.ne_of_lt (Nat.lt_of_lt_of_le f76.lt ts77)
      have big80 : Z.heap.size ≤ t77 := Nat.le_trans O0.1 ts77
      have sz81 : h0.size ≤ t77 := Nat.le_trans K0.1 ts77
      have sz82 : hs1.size ≤ t77 := Nat.le_trans K1.1 ts77
      have hAp_b59 := own_apart hZ hJ f64
      replace hJ := own_JkeepS hZ hJ Kc77 hAp_b59 A59 (ow6 hw)
      replace A59 := A59.keep Kc77
      clear f63
      clear f64
      replace f76 := f76.keep Kc77 (ninS ne66.symm nin0)
      replace O0 := own_oldKeep O0 Kc77 (allS big60 all0)
      replace K0 := K0.trans Kc77 (allS (Or.inr sz61) all0)
      replace K1 := K1.trans Kc77 (allS (Or.inr sz62) all0)
      clear Kc77
      replace f477 : Arv Z T77.heap t77 kb77 .byte (2 : Int32) [(.int (w46.toInt8.toInt32)), (.int (w52.toInt8.toInt32))] (.int (0 : Int32)) := f477
      refine own_goW (fun _ k => XS.astore X77.here hx rfl (hb hby at_333) rfl rfl (l' := #[iv p1, iv p2, iv p3, iv p4, iv (0 : Int32), rv b59, iv ug, iv uf, iv w46, iv w52]) rfl k) ?_
      show own_GoW p e below s _ _ _ _ (T77.setTop (mkF m 335 #[iv p1, iv p2, iv p3, iv p4, iv (0 : Int32), rv b59, iv ug, iv uf, iv w46, iv w52] []))
      have nm83 : own_Num Z T77.heap b59 := Or.inr (Or.inr (Or.inr (⟨_, _, _, _, f377, f277, f477, hp48, hp54⟩)))
      exact sg_s335n hw hO p1 p2 p3 p4 b59 ug uf w46 w52 h0 T77.heap X77 hS hL hJ hx hby hml hret hlk hZ hown hnm (rfl : T77.heap = T77.heap) N0 O0 K0 f177 nm83 (by omega) (by omega)
    · refine own_goW (fun _ k => XS.ifNo X51.here hx rfl (hb hby at_280) rfl ((if0 _ _).trans (feq hc58).1) k) ?_
      show own_GoW p e below s _ _ _ _ (T51.setTop (mkF m 283 #[iv p1, iv p2, iv p3, iv p4, iv (0 : Int32), .unset, iv ug, iv uf, iv w46, iv w52] []))
      obtain ⟨T84, h84, X84, e84, E84, A84, D84, -, st84⟩ := newO X51 hx hZ hown (ow5 hw) (ow6 hw) (ow7 hw) Kc55 (g := (mkF m 283 #[iv p1, iv p2, iv p3, iv p4, iv (0 : Int32), .unset, iv ug, iv uf, iv w46, iv w52] [])) rfl (hb hby at_283) (by show _ ≤ 40; omega) (by show _ ≤ 4288; omega)
      obtain ⟨b84, g84⟩ : ∃ z, z = hs1.size := ⟨_, rfl⟩
      rw [← g84] at A84 D84 st84
      refine own_goW st84 ?_
      clear st84 X51 Kc55
      have ge84 := Nat.le_of_eq g84.symm
      have big85 : Z.heap.size ≤ b84 := Nat.le_trans O0.1 ge84
      have sz86 : h0.size ≤ b84 := Nat.le_trans K0.1 ge84
      have sz87 : hs1.size ≤ b84 := Nat.le_trans K1.1 ge84
      replace O0 := own_oldExt O0 E84
      replace K0 := K0.ext E84
      replace K1 := K1.ext E84
      replace hS := own_since hS E84.1
      replace hJ := own_Jext hJ E84
      clear E84
      have f88 : Fld Z h84 b84 "java/lang/String" "coder" "B" (.int (0 : Int32)) := D84 (Or.inr (ow32 hw)) (ty := .byte) own_fd1
      have f89 : Fld Z h84 b84 "java/lang/String" "value" "[B" .null := D84 (Or.inr (ow34 hw)) (ty := (.array .byte)) own_fd0
      refine own_goW (fun _ k => XS.dup X84.here hx rfl (hb hby at_286) rfl rfl (XS.iconst X84.here hx rfl (hb hby at_287) k)) ?_
      obtain ⟨T90, h90, k90, X90, e90, E90, A90, st90⟩ := newP (aty := .char) X84 hx hZ (ow8 hw) e84 (g := (mkF m 288 #[iv p1, iv p2, iv p3, iv p4, iv (0 : Int32), .unset, iv ug, iv uf, iv w46, iv w52] [(.int (3 : Int32)), (.ref b84), (.ref b84)])) rfl (hb hby at_288) rfl (by decide) (cap := 3) (by decide) (by decide) (by show _ ≤ 40; omega) (by show _ ≤ 4288; omega)
      obtain ⟨b90, g90⟩ : ∃ z, z = h84.size := ⟨_, rfl⟩
      rw [← g90] at A90 st90
      refine own_goW st90 ?_
      clear st90 X84 e84
      have ge90 := Nat.le_of_eq g90.symm
      have ne91 : b84 ≠ b90 := Nat.ne_of_lt (Nat.lt_of_lt_of_le A84.lt ge90)
      have big92 : Z.heap.size ≤ b90 := Nat.le_trans O0.1 ge90
      have sz93 : h0.size ≤ b90 := Nat.le_trans K0.1 ge90
      have sz94 : hs1.size ≤ b90 := Nat.le_trans K1.1 ge90
      replace A84 := A84.ext E90
      replace f88 := f88.ext E90
      replace f89 := f89.ext E90
      replace O0 := own_oldExt O0 E90
      replace K0 := K0.ext E90
      replace K1 := K1.ext E90
      replace hS := own_since hS E90.1
      replace hJ := own_Jext hJ E90
      clear E90
      have f95 : Arv Z h90 b90 k90 .char (3 : Int32) [(.int (0 : Int32)), (.int (0 : Int32)), (.int (0 : Int32))] (.int (0 : Int32)) := (Arv.new A90 (by decide)).pad (pad_rep [] (.int (0 : Int32)) 3)
      refine own_goW (fun _ k => XS.dup X90.here hx rfl (hb hby at_290) rfl rfl (XS.iconst X90.here hx rfl (hb hby at_291) (XS.iload X90.here hx rfl (hb hby at_292) rfl k))) ?_
      obtain ⟨cl96, Ar96, q96, S96, M96, P96, G96⟩ := id f95
      have hin96 : ¬ ((0 : Int32) < 0 ∨ cl96.slots.size ≤ ((0 : Int32)).toNatClampNeg) := inb_of S96 ⟨by decide, by decide⟩
      obtain ⟨T97, h97, X97, e97, W97, st97⟩ := stC X90 hx hZ e90 Ar96 (j := (0 : Int32)) hin96 (g := (mkF m 294 #[iv p1, iv p2, iv p3, iv p4, iv (0 : Int32), .unset, iv ug, iv uf, iv w46, iv w52] [(.int w46), (.int (0 : Int32)), (.ref b90), (.ref b90), (.ref b84), (.ref b84)])) rfl rfl (hb hby at_294)
      refine own_goW st97 ?_
      clear st97 X90 e90
      rw [own_nar8 hp47] at W97
      have f98 : Arv Z h97 b90 k90 .char (3 : Int32) [(.int w46), (.int (0 : Int32)), (.int (0 : Int32))] (.int (0 : Int32)) := Arv.set Ar96 q96 S96 M96 P96 G96 (by have q := fits_nar_char w46; rw [own_nar8 hp47] at q; exact q) W97 0 rfl (Nat.le_of_ble_eq_true rfl)
      replace N0 := Fr.snoc X97 N0 big92
      replace hJ := own_Jwr hZ hJ W97 (own_farV f95 (by decide) (ow6 hw))
      replace A84 := A84.wr W97
      replace f88 := f88.other W97 (Or.inl ne91)
      replace f89 := f89.other W97 (Or.inl ne91)
      clear f95
      replace O0 := own_oldWr O0 W97 big92
      replace K0 := K0.wr W97 (Or.inr sz93)
      replace K1 := K1.wr W97 (Or.inr sz94)
      replace hS := own_since hS (Nat.le_of_eq W97.size.symm)
      clear W97
      clear Ar96 q96 S96 M96 P96 G96 hin96
      show own_GoW p e below s _ _ _ _ (T97.setTop (mkF m 295 #[iv p1, iv p2, iv p3, iv p4, iv (0 : Int32), .unset, iv ug, iv uf, iv w46, iv w52] [(.ref b90), (.ref b84), (.ref b84)]))
      refine own_goW (fun _ k => XS.dup X97.here hx rfl (hb hby at_295) rfl rfl (XS.iconst X97.here hx rfl (hb hby at_296) (XS.bipush X97.here hx rfl (hb hby at_297) k))) ?_
      obtain ⟨cl99, Ar99, q99, S99, M99, P99, G99⟩ := id f98
      have hin99 : ¬ ((1 : Int32) < 0 ∨ cl99.slots.size ≤ ((1 : Int32)).toNatClampNeg) := inb_of S99 ⟨by decide, by decide⟩
      obtain ⟨T100, h100, X100, e100, W100, st100⟩ := stC X97 hx hZ e97 Ar99 (j := (1 : Int32)) hin99 (g := (mkF m 299 #[iv p1, iv p2, iv p3, iv p4, iv (0 : Int32), .unset, iv ug, iv uf, iv w46, iv w52] [(.int (46 : Int32)), (.int (1 : Int32)), (.ref b90), (.ref b90), (.ref b84), (.ref b84)])) rfl rfl (hb hby at_299)
      refine own_goW st100 ?_
      clear st100 X97 e97
      rw [show nar .char (46 : Int32) = (46 : Int32) from by decide] at W100
      have f101 : Arv Z h100 b90 k90 .char (3 : Int32) [(.int w46), (.int (46 : Int32)), (.int (0 : Int32))] (.int (0 : Int32)) := Arv.set Ar99 q99 S99 M99 P99 G99 (by have q := fits_nar_char (46 : Int32); rw [show nar .char (46 : Int32) = (46 : Int32) from by decide] at q; exact q) W100 1 rfl (Nat.le_of_ble_eq_true rfl)
      replace N0 := Fr.snoc X100 N0 big92
      replace hJ := own_Jwr hZ hJ W100 (own_farV f98 (by decide) (ow6 hw))
      replace A84 := A84.wr W100
      replace f88 := f88.other W100 (Or.inl ne91)
      replace f89 := f89.other W100 (Or.inl ne91)
      clear f98
      replace O0 := own_oldWr O0 W100 big92
      replace K0 := K0.wr W100 (Or.inr sz93)
      replace K1 := K1.wr W100 (Or.inr sz94)
      replace hS := own_since hS (Nat.le_of_eq W100.size.symm)
      clear W100
      clear Ar99 q99 S99 M99 P99 G99 hin99
      refine own_goW (fun _ k => XS.dup X100.here hx rfl (hb hby at_300) rfl rfl (XS.iconst X100.here hx rfl (hb hby at_301) (XS.iload X100.here hx rfl (hb hby at_302) rfl k))) ?_
      obtain ⟨cl102, Ar102, q102, S102, M102, P102, G102⟩ := id f101
      have hin102 : ¬ ((2 : Int32) < 0 ∨ cl102.slots.size ≤ ((2 : Int32)).toNatClampNeg) := inb_of S102 ⟨by decide, by decide⟩
      obtain ⟨T103, h103, X103, e103, W103, st103⟩ := stC X100 hx hZ e100 Ar102 (j := (2 : Int32)) hin102 (g := (mkF m 304 #[iv p1, iv p2, iv p3, iv p4, iv (0 : Int32), .unset, iv ug, iv uf, iv w46, iv w52] [(.int w52), (.int (2 : Int32)), (.ref b90), (.ref b90), (.ref b84), (.ref b84)])) rfl rfl (hb hby at_304)
      refine own_goW st103 ?_
      clear st103 X100 e100
      rw [own_nar8 hp53] at W103
      have f104 : Arv Z h103 b90 k90 .char (3 : Int32) [(.int w46), (.int (46 : Int32)), (.int w52)] (.int (0 : Int32)) := Arv.set Ar102 q102 S102 M102 P102 G102 (by have q := fits_nar_char w52; rw [own_nar8 hp53] at q; exact q) W103 2 rfl (Nat.le_of_ble_eq_true rfl)
      replace N0 := Fr.snoc X103 N0 big92
      replace hJ := own_Jwr hZ hJ W103 (own_farV f101 (by decide) (ow6 hw))
      replace A84 := A84.wr W103
      replace f88 := f88.other W103 (Or.inl ne91)
      replace f89 := f89.other W103 (Or.inl ne91)
      clear f101
      replace O0 := own_oldWr O0 W103 big92
      replace K0 := K0.wr W103 (Or.inr sz93)
      replace K1 := K1.wr W103 (Or.inr sz94)
      replace hS := own_since hS (Nat.le_of_eq W103.size.symm)
      clear W103
      clear Ar102 q102 S102 M102 P102 G102 hin102
      show own_GoW p e below s _ _ _ _ (T103.setTop (mkF m 305 #[iv p1, iv p2, iv p3, iv p4, iv (0 : Int32), .unset, iv ug, iv uf, iv w46, iv w52] [(.ref b90), (.ref b84), (.ref b84)]))
      obtain ⟨v105, T105, L105, X105, hQ105, st105⟩ := own_callIB (y := own_y1) X103 hx hZ hown (ow9 hw) (ow10 hw) (ow7 hw) (ow11 hw) 1 1 3 (StrChars.Road.backV (W := 1) hZ (own_sw1 hw) (kI := 4) (ow6 hw) (cs := ([w46, (46 : Int32), w52] : List Int32)) (bs := ([w46, (46 : Int32), w52] : List Int32).map (fun c => c.toInt8.toInt32)) (n := 3) (n0 := Z.heap.size) big85 (Nat.le_trans O0.1 (Nat.le_refl _)) A84 f89 f88 f104 (oCS.ext O0) oCz rfl rfl (by decide) (by decide) (own_cC hp47 (own_cC (⟨by decide, by decide⟩ : own_C8 (46 : Int32)) (own_cC hp53 own_cN))) rfl (by decide) (by decide)) rfl (by show _ ≤ 40; omega) (by show _ ≤ 4288; omega) e103 (g := (mkF m 305 #[iv p1, iv p2, iv p3, iv p4, iv (0 : Int32), .unset, iv ug, iv uf, iv w46, iv w52] [(.ref b90), (.ref b84), (.ref b84)])) rfl (by rw [hml]; rfl) b84 [(.ref b90)] [(.ref b84)] (lenOf own_pd_39 rfl) rfl rfl (hb hby at_305)
      obtain ⟨rfl, Nc105, Kc105, f1105, f2105, t105, kb105, tb105, ts105, tn105, f3105, f4105⟩ := hQ105
      refine own_goW st105 ?_
      clear st105 X103 e103
      replace N0 := Fr.app N0 Nc105
      clear Nc105
      replace hS := own_since hS Kc105.1
      have ne106 : b84 ≠ t105 := Nat.ne_of_lt (Nat.lt_of_lt_of_le A84.lt ts105)
      have ne107 : b90 ≠ t105 := Nat.ne_of_lt (Nat.lt_of_lt_of_le f104.lt ts105)
      have big108 : Z.heap.size ≤ t105 := Nat.le_trans O0.1 ts105
      have sz109 : h0.size ≤ t105 := Nat.le_trans K0.1 ts105
      have sz110 : hs1.size ≤ t105 := Nat.le_trans K1.1 ts105
      have hAp_b84 := own_apart hZ hJ f89
      replace hJ := own_JkeepS hZ hJ Kc105 hAp_b84 A84 (ow6 hw)
      replace A84 := A84.keep Kc105
      clear f88
      clear f89
      replace f104 := f104.keep Kc105 (ninS ne91.symm nin0)
      replace O0 := own_oldKeep O0 Kc105 (allS big85 all0)
      replace K0 := K0.trans Kc105 (allS (Or.inr sz86) all0)
      replace K1 := K1.trans Kc105 (allS (Or.inr sz87) all0)
      clear Kc105
      replace f4105 : Arv Z T105.heap t105 kb105 .byte (3 : Int32) [(.int (w46.toInt8.toInt32)), (.int ((46 : Int32).toInt8.toInt32)), (.int (w52.toInt8.toInt32))] (.int (0 : Int32)) := f4105
      refine own_goW (fun _ k => XS.astore X105.here hx rfl (hb hby at_308) rfl rfl (l' := #[iv p1, iv p2, iv p3, iv p4, iv (0 : Int32), rv b84, iv ug, iv uf, iv w46, iv w52]) rfl (XS.goto X105.here hx rfl (pc0 := 310) (pc' := 335) rfl (hb hby at_310) (by decide) (by decide) k)) ?_
      show own_GoW p e below s _ _ _ _ (T105.setTop (mkF m 335 #[iv p1, iv p2, iv p3, iv p4, iv (0 : Int32), rv b84, iv ug, iv uf, iv w46, iv w52] []))
      have nm111 : own_Num Z T105.heap b84 := Or.inr (Or.inr (Or.inl ⟨_, _, _, _, f3105, f2105, f4105, hp48, hp54⟩))
      exact sg_s335n hw hO p1 p2 p3 p4 b84 ug uf w46 w52 h0 T105.heap X105 hS hL hJ hx hby hml hret hlk hZ hown hnm (rfl : T105.heap = T105.heap) N0 O0 K0 f1105 nm111 (by omega) (by omega)
  · refine own_goW (fun _ k => XS.ifNo X51.here hx rfl (hb hby at_200) rfl ((if0 _ _).trans (feq hc57).1) k) ?_
    show own_GoW p e below s _ _ _ _ (T51.setTop (mkF m 203 #[iv p1, iv p2, iv p3, iv p4, iv (0 : Int32), .unset, iv ug, iv uf, iv w46, iv w52] []))
    refine own_goW (fun _ k => XS.iload X51.here hx rfl (hb hby at_203) rfl k) ?_
    by_cases hc112 : uf = (0 : Int32)
    · refine own_goW (fun _ k => XS.ifYes X51.here hx rfl (pc0 := 205) (pc' := 243) rfl (hb hby at_205) rfl ((if0 _ _).trans (teq hc112).1) (by decide) (by decide) k) ?_
      show own_GoW p e below s _ _ _ _ (T51.setTop (mkF m 243 #[iv p1, iv p2, iv p3, iv p4, iv (0 : Int32), .unset, iv ug, iv uf, iv w46, iv w52] []))
      refine own_goW (fun _ k => XS.iload X51.here hx rfl (hb hby at_243) rfl (XS.ifNo X51.here hx rfl (hb hby at_245) rfl ((if0 _ _).trans (feq hc57).1) k)) ?_
      obtain ⟨T113, h113, X113, e113, E113, A113, D113, -, st113⟩ := newO X51 hx hZ hown (ow5 hw) (ow6 hw) (ow7 hw) Kc55 (g := (mkF m 248 #[iv p1, iv p2, iv p3, iv p4, iv (0 : Int32), .unset, iv ug, iv uf, iv w46, iv w52] [])) rfl (hb hby at_248) (by show _ ≤ 40; omega) (by show _ ≤ 4288; omega)
      obtain ⟨b113, g113⟩ : ∃ z, z = hs1.size := ⟨_, rfl⟩
      rw [← g113] at A113 D113 st113
      refine own_goW st113 ?_
      clear st113 X51 Kc55
      have ge113 := Nat.le_of_eq g113.symm
      have big114 : Z.heap.size ≤ b113 := Nat.le_trans O0.1 ge113
      have sz115 : h0.size ≤ b113 := Nat.le_trans K0.1 ge113
      have sz116 : hs1.size ≤ b113 := Nat.le_trans K1.1 ge113
      replace O0 := own_oldExt O0 E113
      replace K0 := K0.ext E113
      replace K1 := K1.ext E113
      replace hS := own_since hS E113.1
      replace hJ := own_Jext hJ E113
      clear E113
      have f117 : Fld Z h113 b113 "java/lang/String" "coder" "B" (.int (0 : Int32)) := D113 (Or.inr (ow32 hw)) (ty := .byte) own_fd1
      have f118 : Fld Z h113 b113 "java/lang/String" "value" "[B" .null := D113 (Or.inr (ow34 hw)) (ty := (.array .byte)) own_fd0
      refine own_goW (fun _ k => XS.dup X113.here hx rfl (hb hby at_251) rfl rfl (XS.iconst X113.here hx rfl (hb hby at_252) k)) ?_
      obtain ⟨T119, h119, k119, X119, e119, E119, A119, st119⟩ := newP (aty := .char) X113 hx hZ (ow8 hw) e113 (g := (mkF m 253 #[iv p1, iv p2, iv p3, iv p4, iv (0 : Int32), .unset, iv ug, iv uf, iv w46, iv w52] [(.int (3 : Int32)), (.ref b113), (.ref b113)])) rfl (hb hby at_253) rfl (by decide) (cap := 3) (by decide) (by decide) (by show _ ≤ 40; omega) (by show _ ≤ 4288; omega)
      obtain ⟨b119, g119⟩ : ∃ z, z = h113.size := ⟨_, rfl⟩
      rw [← g119] at A119 st119
      refine own_goW st119 ?_
      clear st119 X113 e113
      have ge119 := Nat.le_of_eq g119.symm
      have ne120 : b113 ≠ b119 := Nat.ne_of_lt (Nat.lt_of_lt_of_le A113.lt ge119)
      have big121 : Z.heap.size ≤ b119 := Nat.le_trans O0.1 ge119
      have sz122 : h0.size ≤ b119 := Nat.le_trans K0.1 ge119
      have sz123 : hs1.size ≤ b119 := Nat.le_trans K1.1 ge119
      replace A113 := A113.ext E119
      replace f117 := f117.ext E119
      replace f118 := f118.ext E119
      replace O0 := own_oldExt O0 E119
      replace K0 := K0.ext E119
      replace K1 := K1.ext E119
      replace hS := own_since hS E119.1
      replace hJ := own_Jext hJ E119
      clear E119
      have f124 : Arv Z h119 b119 k119 .char (3 : Int32) [(.int (0 : Int32)), (.int (0 : Int32)), (.int (0 : Int32))] (.int (0 : Int32)) := (Arv.new A119 (by decide)).pad (pad_rep [] (.int (0 : Int32)) 3)
      refine own_goW (fun _ k => XS.dup X119.here hx rfl (hb hby at_255) rfl rfl (XS.iconst X119.here hx rfl (hb hby at_256) k)) ?_
      show own_GoW p e below s _ _ _ _ (T119.setTop (mkF m 257 #[iv p1, iv p2, iv p3, iv p4, iv (0 : Int32), .unset, iv ug, iv uf, iv w46, iv w52] [(.int (0 : Int32)), (.ref b119), (.ref b119), (.ref b113), (.ref b113)]))
      refine own_goW (fun _ k => XS.bipush X119.here hx rfl (hb hby at_257) k) ?_
      obtain ⟨cl125, Ar125, q125, S125, M125, P125, G125⟩ := id f124
      have hin125 : ¬ ((0 : Int32) < 0 ∨ cl125.slots.size ≤ ((0 : Int32)).toNatClampNeg) := inb_of S125 ⟨by decide, by decide⟩
      obtain ⟨T126, h126, X126, e126, W126, st126⟩ := stC X119 hx hZ e119 Ar125 (j := (0 : Int32)) hin125 (g := (mkF m 259 #[iv p1, iv p2, iv p3, iv p4, iv (0 : Int32), .unset, iv ug, iv uf, iv w46, iv w52] [(.int (45 : Int32)), (.int (0 : Int32)), (.ref b119), (.ref b119), (.ref b113), (.ref b113)])) rfl rfl (hb hby at_259)
      refine own_goW st126 ?_
      clear st126 X119 e119
      rw [show nar .char (45 : Int32) = (45 : Int32) from by decide] at W126
      have f127 : Arv Z h126 b119 k119 .char (3 : Int32) [(.int (45 : Int32)), (.int (0 : Int32)), (.int (0 : Int32))] (.int (0 : Int32)) := Arv.set Ar125 q125 S125 M125 P125 G125 (by have q := fits_nar_char (45 : Int32); rw [show nar .char (45 : Int32) = (45 : Int32) from by decide] at q; exact q) W126 0 rfl (Nat.le_of_ble_eq_true rfl)
      replace N0 := Fr.snoc X126 N0 big121
      replace hJ := own_Jwr hZ hJ W126 (own_farV f124 (by decide) (ow6 hw))
      replace A113 := A113.wr W126
      replace f117 := f117.other W126 (Or.inl ne120)
      replace f118 := f118.other W126 (Or.inl ne120)
      clear f124
      replace O0 := own_oldWr O0 W126 big121
      replace K0 := K0.wr W126 (Or.inr sz122)
      replace K1 := K1.wr W126 (Or.inr sz123)
      replace hS := own_since hS (Nat.le_of_eq W126.size.symm)
      clear W126
      clear Ar125 q125 S125 M125 P125 G125 hin125
      refine own_goW (fun _ k => XS.dup X126.here hx rfl (hb hby at_260) rfl rfl (XS.iconst X126.here hx rfl (hb hby at_261) (XS.iload X126.here hx rfl (hb hby at_262) rfl k))) ?_
      obtain ⟨cl128, Ar128, q128, S128, M128, P128, G128⟩ := id f127
      have hin128 : ¬ ((1 : Int32) < 0 ∨ cl128.slots.size ≤ ((1 : Int32)).toNatClampNeg) := inb_of S128 ⟨by decide, by decide⟩
      obtain ⟨T129, h129, X129, e129, W129, st129⟩ := stC X126 hx hZ e126 Ar128 (j := (1 : Int32)) hin128 (g := (mkF m 264 #[iv p1, iv p2, iv p3, iv p4, iv (0 : Int32), .unset, iv ug, iv uf, iv w46, iv w52] [(.int w46), (.int (1 : Int32)), (.ref b119), (.ref b119), (.ref b113), (.ref b113)])) rfl rfl (hb hby at_264)
      refine own_goW st129 ?_
      clear st129 X126 e126
      rw [own_nar8 hp47] at W129
      have f130 : Arv Z h129 b119 k119 .char (3 : Int32) [(.int (45 : Int32)), (.int w46), (.int (0 : Int32))] (.int (0 : Int32)) := Arv.set Ar128 q128 S128 M128 P128 G128 (by have q := fits_nar_char w46; rw [own_nar8 hp47] at q; exact q) W129 1 rfl (Nat.le_of_ble_eq_true rfl)
      replace N0 := Fr.snoc X129 N0 big121
      replace hJ := own_Jwr hZ hJ W129 (own_farV f127 (by decide) (ow6 hw))
      replace A113 := A113.wr W129
      replace f117 := f117.other W129 (Or.inl ne120)
      replace f118 := f118.other W129 (Or.inl ne120)
      clear f127
      replace O0 := own_oldWr O0 W129 big121
      replace K0 := K0.wr W129 (Or.inr sz122)
      replace K1 := K1.wr W129 (Or.inr sz123)
      replace hS := own_since hS (Nat.le_of_eq W129.size.symm)
      clear W129
      clear Ar128 q128 S128 M128 P128 G128 hin128
      refine own_goW (fun _ k => XS.dup X129.here hx rfl (hb hby at_265) rfl rfl (XS.iconst X129.here hx rfl (hb hby at_266) k)) ?_
      show own_GoW p e below s _ _ _ _ (T129.setTop (mkF m 267 #[iv p1, iv p2, iv p3, iv p4, iv (0 : Int32), .unset, iv ug, iv uf, iv w46, iv w52] [(.int (2 : Int32)), (.ref b119), (.ref b119), (.ref b113), (.ref b113)]))
      refine own_goW (fun _ k => XS.iload X129.here hx rfl (hb hby at_267) rfl k) ?_
      obtain ⟨cl131, Ar131, q131, S131, M131, P131, G131⟩ := id f130
      have hin131 : ¬ ((2 : Int32) < 0 ∨ cl131.slots.size ≤ ((2 : Int32)).toNatClampNeg) := inb_of S131 ⟨by decide, by decide⟩
      obtain ⟨T132, h132, X132, e132, W132, st132⟩ := stC X129 hx hZ e129 Ar131 (j := (2 : Int32)) hin131 (g := (mkF m 269 #[iv p1, iv p2, iv p3, iv p4, iv (0 : Int32), .unset, iv ug, iv uf, iv w46, iv w52] [(.int w52), (.int (2 : Int32)), (.ref b119), (.ref b119), (.ref b113), (.ref b113)])) rfl rfl (hb hby at_269)
      refine own_goW st132 ?_
      clear st132 X129 e129
      rw [own_nar8 hp53] at W132
      have f133 : Arv Z h132 b119 k119 .char (3 : Int32) [(.int (45 : Int32)), (.int w46), (.int w52)] (.int (0 : Int32)) := Arv.set Ar131 q131 S131 M131 P131 G131 (by have q := fits_nar_char w52; rw [own_nar8 hp53] at q; exact q) W132 2 rfl (Nat.le_of_ble_eq_true rfl)
      replace N0 := Fr.snoc X132 N0 big121
      replace hJ := own_Jwr hZ hJ W132 (own_farV f130 (by decide) (ow6 hw))
      replace A113 := A113.wr W132
      replace f117 := f117.other W132 (Or.inl ne120)
      replace f118 := f118.other W132 (Or.inl ne120)
      clear f130
      replace O0 := own_oldWr O0 W132 big121
      replace K0 := K0.wr W132 (Or.inr sz122)
      replace K1 := K1.wr W132 (Or.inr sz123)
      replace hS := own_since hS (Nat.le_of_eq W132.size.symm)
      clear W132
      clear Ar131 q131 S131 M131 P131 G131 hin131
      obtain ⟨v134, T134, L134, X134, hQ134, st134⟩ := own_callIB (y := own_y1) X132 hx hZ hown (ow9 hw) (ow10 hw) (ow7 hw) (ow11 hw) 1 1 3 (StrChars.Road.backV (W := 1) hZ (own_sw1 hw) (kI := 4) (ow6 hw) (cs := ([(45 : Int32), w46, w52] : List Int32)) (bs := ([(45 : Int32), w46, w52] : List Int32).map (fun c => c.toInt8.toInt32)) (n := 3) (n0 := Z.heap.size) big114 (Nat.le_trans O0.1 (Nat.le_refl _)) A113 f118 f117 f133 (oCS.ext O0) oCz rfl rfl (by decide) (by decide) (own_cC (⟨by decide, by decide⟩ : own_C8 (45 : Int32)) (own_cC hp47 (own_cC hp53 own_cN))) rfl (by decide) (by decide)) rfl (by show _ ≤ 40; omega) (by show _ ≤ 4288; omega) e132 (g := (mkF m 270 #[iv p1, iv p2, iv p3, iv p4, iv (0 : Int32), .unset, iv ug, iv uf, iv w46, iv w52] [(.ref b119), (.ref b113), (.ref b113)])) rfl (by rw [hml]; rfl) b113 [(.ref b119)] [(.ref b113)] (lenOf own_pd_39 rfl) rfl rfl (hb hby at_270)
      obtain ⟨rfl, Nc134, Kc134, f1134, f2134, t134, kb134, tb134, ts134, tn134, f3134, f4134⟩ := hQ134
      refine own_goW st134 ?_
      clear st134 X132 e132
      replace N0 := Fr.app N0 Nc134
      clear Nc134
      replace hS := own_since hS Kc134.1
      have ne135 : b113 ≠ t134 := Nat.ne_of_lt (Nat.lt_of_lt_of_le A113.lt ts134)
      have ne136 : b119 ≠ t134 := Nat.ne_of_lt (Nat.lt_of_lt_of_le f133.lt ts134)
      have big137 : Z.heap.size ≤ t134 := Nat.le_trans O0.1 ts134
      have sz138 : h0.size ≤ t134 := Nat.le_trans K0.1 ts134
      have sz139 : hs1.size ≤ t134 := Nat.le_trans K1.1 ts134
      have hAp_b113 := own_apart hZ hJ f118
      replace hJ := own_JkeepS hZ hJ Kc134 hAp_b113 A113 (ow6 hw)
      replace A113 := A113.keep Kc134
      clear f117
      clear f118
      replace f133 := f133.keep Kc134 (ninS ne120.symm nin0)
      replace O0 := own_oldKeep O0 Kc134 (allS big114 all0)
      replace K0 := K0.trans Kc134 (allS (Or.inr sz115) all0)
      replace K1 := K1.trans Kc134 (allS (Or.inr sz116) all0)
      clear Kc134
      replace f4134 : Arv Z T134.heap t134 kb134 .byte (3 : Int32) [(.int ((45 : Int32).toInt8.toInt32)), (.int (w46.toInt8.toInt32)), (.int (w52.toInt8.toInt32))] (.int (0 : Int32)) := f4134
      refine own_goW (fun _ k => XS.astore X134.here hx rfl (hb hby at_273) rfl rfl (l' := #[iv p1, iv p2, iv p3, iv p4, iv (0 : Int32), rv b113, iv ug, iv uf, iv w46, iv w52]) rfl (XS.goto X134.here hx rfl (pc0 := 275) (pc' := 335) rfl (hb hby at_275) (by decide) (by decide) k)) ?_
      show own_GoW p e below s _ _ _ _ (T134.setTop (mkF m 335 #[iv p1, iv p2, iv p3, iv p4, iv (0 : Int32), rv b113, iv ug, iv uf, iv w46, iv w52] []))
      have nm140 : own_Num Z T134.heap b113 := Or.inr (Or.inl ⟨_, _, _, _, f3134, f2134, f4134, hp48, hp54⟩)
      exact sg_s335n hw hO p1 p2 p3 p4 b113 ug uf w46 w52 h0 T134.heap X134 hS hL hJ hx hby hml hret hlk hZ hown hnm (rfl : T134.heap = T134.heap) N0 O0 K0 f1134 nm140 (by omega) (by omega)
    · refine own_goW (fun _ k => XS.ifNo X51.here hx rfl (hb hby at_205) rfl ((if0 _ _).trans (feq hc112).1) k) ?_
      show own_GoW p e below s _ _ _ _ (T51.setTop (mkF m 208 #[iv p1, iv p2, iv p3, iv p4, iv (0 : Int32), .unset, iv ug, iv uf, iv w46, iv w52] []))
      obtain ⟨T141, h141, X141, e141, E141, A141, D141, -, st141⟩ := newO X51 hx hZ hown (ow5 hw) (ow6 hw) (ow7 hw) Kc55 (g := (mkF m 208 #[iv p1, iv p2, iv p3, iv p4, iv (0 : Int32), .unset, iv ug, iv uf, iv w46, iv w52] [])) rfl (hb hby at_208) (by show _ ≤ 40; omega) (by show _ ≤ 4288; omega)
      obtain ⟨b141, g141⟩ : ∃ z, z = hs1.size := ⟨_, rfl⟩
      rw [← g141] at A141 D141 st141
      refine own_goW st141 ?_
      clear st141 X51 Kc55
      have ge141 := Nat.le_of_eq g141.symm
      have big142 : Z.heap.size ≤ b141 := Nat.le_trans O0.1 ge141
      have sz143 : h0.size ≤ b141 := Nat.le_trans K0.1 ge141
      have sz144 : hs1.size ≤ b141 := Nat.le_trans K1.1 ge141
      replace O0 := own_oldExt O0 E141
      replace K0 := K0.ext E141
      replace K1 := K1.ext E141
      replace hS := own_since hS E141.1
      replace hJ := own_Jext hJ E141
      clear E141
      have f145 : Fld Z h141 b141 "java/lang/String" "coder" "B" (.int (0 : Int32)) := D141 (Or.inr (ow32 hw)) (ty := .byte) own_fd1
      have f146 : Fld Z h141 b141 "java/lang/String" "value" "[B" .null := D141 (Or.inr (ow34 hw)) (ty := (.array .byte)) own_fd0
      refine own_goW (fun _ k => XS.dup X141.here hx rfl (hb hby at_211) rfl rfl (XS.iconst X141.here hx rfl (hb hby at_212) k)) ?_
      obtain ⟨T147, h147, k147, X147, e147, E147, A147, st147⟩ := newP (aty := .char) X141 hx hZ (ow8 hw) e141 (g := (mkF m 213 #[iv p1, iv p2, iv p3, iv p4, iv (0 : Int32), .unset, iv ug, iv uf, iv w46, iv w52] [(.int (4 : Int32)), (.ref b141), (.ref b141)])) rfl (hb hby at_213) rfl (by decide) (cap := 4) (by decide) (by decide) (by show _ ≤ 40; omega) (by show _ ≤ 4288; omega)
      obtain ⟨b147, g147⟩ : ∃ z, z = h141.size := ⟨_, rfl⟩
      rw [← g147] at A147 st147
      refine own_goW st147 ?_
      clear st147 X141 e141
      have ge147 := Nat.le_of_eq g147.symm
      have ne148 : b141 ≠ b147 := Nat.ne_of_lt (Nat.lt_of_lt_of_le A141.lt ge147)
      have big149 : Z.heap.size ≤ b147 := Nat.le_trans O0.1 ge147
      have sz150 : h0.size ≤ b147 := Nat.le_trans K0.1 ge147
      have sz151 : hs1.size ≤ b147 := Nat.le_trans K1.1 ge147
      replace A141 := A141.ext E147
      replace f145 := f145.ext E147
      replace f146 := f146.ext E147
      replace O0 := own_oldExt O0 E147
      replace K0 := K0.ext E147
      replace K1 := K1.ext E147
      replace hS := own_since hS E147.1
      replace hJ := own_Jext hJ E147
      clear E147
      have f152 : Arv Z h147 b147 k147 .char (4 : Int32) [(.int (0 : Int32)), (.int (0 : Int32)), (.int (0 : Int32)), (.int (0 : Int32))] (.int (0 : Int32)) := (Arv.new A147 (by decide)).pad (pad_rep [] (.int (0 : Int32)) 4)
      refine own_goW (fun _ k => XS.dup X147.here hx rfl (hb hby at_215) rfl rfl (XS.iconst X147.here hx rfl (hb hby at_216) (XS.bipush X147.here hx rfl (hb hby at_217) k))) ?_
      obtain ⟨cl153, Ar153, q153, S153, M153, P153, G153⟩ := id f152
      have hin153 : ¬ ((0 : Int32) < 0 ∨ cl153.slots.size ≤ ((0 : Int32)).toNatClampNeg) := inb_of S153 ⟨by decide, by decide⟩
      obtain ⟨T154, h154, X154, e154, W154, st154⟩ := stC X147 hx hZ e147 Ar153 (j := (0 : Int32)) hin153 (g := (mkF m 219 #[iv p1, iv p2, iv p3, iv p4, iv (0 : Int32), .unset, iv ug, iv uf, iv w46, iv w52] [(.int (45 : Int32)), (.int (0 : Int32)), (.ref b147), (.ref b147), (.ref b141), (.ref b141)])) rfl rfl (hb hby at_219)
      refine own_goW st154 ?_
      clear st154 X147 e147
      rw [show nar .char (45 : Int32) = (45 : Int32) from by decide] at W154
      have f155 : Arv Z h154 b147 k147 .char (4 : Int32) [(.int (45 : Int32)), (.int (0 : Int32)), (.int (0 : Int32)), (.int (0 : Int32))] (.int (0 : Int32)) := Arv.set Ar153 q153 S153 M153 P153 G153 (by have q := fits_nar_char (45 : Int32); rw [show nar .char (45 : Int32) = (45 : Int32) from by decide] at q; exact q) W154 0 rfl (Nat.le_of_ble_eq_true rfl)
      replace N0 := Fr.snoc X154 N0 big149
      replace hJ := own_Jwr hZ hJ W154 (own_farV f152 (by decide) (ow6 hw))
      replace A141 := A141.wr W154
      replace f145 := f145.other W154 (Or.inl ne148)
      replace f146 := f146.other W154 (Or.inl ne148)
      clear f152
      replace O0 := own_oldWr O0 W154 big149
      replace K0 := K0.wr W154 (Or.inr sz150)
      replace K1 := K1.wr W154 (Or.inr sz151)
      replace hS := own_since hS (Nat.le_of_eq W154.size.symm)
      clear W154
      clear Ar153 q153 S153 M153 P153 G153 hin153
      show own_GoW p e below s _ _ _ _ (T154.setTop (mkF m 220 #[iv p1, iv p2, iv p3, iv p4, iv (0 : Int32), .unset, iv ug, iv uf, iv w46, iv w52] [(.ref b147), (.ref b141), (.ref b141)]))
      refine own_goW (fun _ k => XS.dup X154.here hx rfl (hb hby at_220) rfl rfl (XS.iconst X154.here hx rfl (hb hby at_221) (XS.iload X154.here hx rfl (hb hby at_222) rfl k))) ?_
      obtain ⟨cl156, Ar156, q156, S156, M156, P156, G156⟩ := id f155
      have hin156 : ¬ ((1 : Int32) < 0 ∨ cl156.slots.size ≤ ((1 : Int32)).toNatClampNeg) := inb_of S156 ⟨by decide, by decide⟩
      obtain ⟨T157, h157, X157, e157, W157, st157⟩ := stC X154 hx hZ e154 Ar156 (j := (1 : Int32)) hin156 (g := (mkF m 224 #[iv p1, iv p2, iv p3, iv p4, iv (0 : Int32), .unset, iv ug, iv uf, iv w46, iv w52] [(.int w46), (.int (1 : Int32)), (.ref b147), (.ref b147), (.ref b141), (.ref b141)])) rfl rfl (hb hby at_224)
      refine own_goW st157 ?_
      clear st157 X154 e154
      rw [own_nar8 hp47] at W157
      have f158 : Arv Z h157 b147 k147 .char (4 : Int32) [(.int (45 : Int32)), (.int w46), (.int (0 : Int32)), (.int (0 : Int32))] (.int (0 : Int32)) := Arv.set Ar156 q156 S156 M156 P156 G156 (by have q := fits_nar_char w46; rw [own_nar8 hp47] at q; exact q) W157 1 rfl (Nat.le_of_ble_eq_true rfl)
      replace N0 := Fr.snoc X157 N0 big149
      replace hJ := own_Jwr hZ hJ W157 (own_farV f155 (by decide) (ow6 hw))
      replace A141 := A141.wr W157
      replace f145 := f145.other W157 (Or.inl ne148)
      replace f146 := f146.other W157 (Or.inl ne148)
      clear f155
      replace O0 := own_oldWr O0 W157 big149
      replace K0 := K0.wr W157 (Or.inr sz150)
      replace K1 := K1.wr W157 (Or.inr sz151)
      replace hS := own_since hS (Nat.le_of_eq W157.size.symm)
      clear W157
      clear Ar156 q156 S156 M156 P156 G156 hin156
      refine own_goW (fun _ k => XS.dup X157.here hx rfl (hb hby at_225) rfl rfl (XS.iconst X157.here hx rfl (hb hby at_226) (XS.bipush X157.here hx rfl (hb hby at_227) k))) ?_
      obtain ⟨cl159, Ar159, q159, S159, M159, P159, G159⟩ := id f158
      have hin159 : ¬ ((2 : Int32) < 0 ∨ cl159.slots.size ≤ ((2 : Int32)).toNatClampNeg) := inb_of S159 ⟨by decide, by decide⟩
      obtain ⟨T160, h160, X160, e160, W160, st160⟩ := stC X157 hx hZ e157 Ar159 (j := (2 : Int32)) hin159 (g := (mkF m 229 #[iv p1, iv p2, iv p3, iv p4, iv (0 : Int32), .unset, iv ug, iv uf, iv w46, iv w52] [(.int (46 : Int32)), (.int (2 : Int32)), (.ref b147), (.ref b147), (.ref b141), (.ref b141)])) rfl rfl (hb hby at_229)
      refine own_goW st160 ?_
      clear st160 X157 e157
      rw [show nar .char (46 : Int32) = (46 : Int32) from by decide] at W160
      have f161 : Arv Z h160 b147 k147 .char (4 : Int32) [(.int (45 : Int32)), (.int w46), (.int (46 : Int32)), (.int (0 : Int32))] (.int (0 : Int32)) := Arv.set Ar159 q159 S159 M159 P159 G159 (by have q := fits_nar_char (46 : Int32); rw [show nar .char (46 : Int32) = (46 : Int32) from by decide] at q; exact q) W160 2 rfl (Nat.le_of_ble_eq_true rfl)
      replace N0 := Fr.snoc X160 N0 big149
      replace hJ := own_Jwr hZ hJ W160 (own_farV f158 (by decide) (ow6 hw))
      replace A141 := A141.wr W160
      replace f145 := f145.other W160 (Or.inl ne148)
      replace f146 := f146.other W160 (Or.inl ne148)
      clear f158
      replace O0 := own_oldWr O0 W160 big149
      replace K0 := K0.wr W160 (Or.inr sz150)
      replace K1 := K1.wr W160 (Or.inr sz151)
      replace hS := own_since hS (Nat.le_of_eq W160.size.symm)
      clear W160
      clear Ar159 q159 S159 M159 P159 G159 hin159
      show own_GoW p e below s _ _ _ _ (T160.setTop (mkF m 230 #[iv p1, iv p2, iv p3, iv p4, iv (0 : Int32), .unset, iv ug, iv uf, iv w46, iv w52] [(.ref b147), (.ref b141), (.ref b141)]))
      refine own_goW (fun _ k => XS.dup X160.here hx rfl (hb hby at_230) rfl rfl (XS.iconst X160.here hx rfl (hb hby at_231) (XS.iload X160.here hx rfl (hb hby at_232) rfl k))) ?_
      obtain ⟨cl162, Ar162, q162, S162, M162, P162, G162⟩ := id f161
      have hin162 : ¬ ((3 : Int32) < 0 ∨ cl162.slots.size ≤ ((3 : Int32)).toNatClampNeg) := inb_of S162 ⟨by decide, by decide⟩
      obtain ⟨T163, h163, X163, e163, W163, st163⟩ := stC X160 hx hZ e160 Ar162 (j := (3 : Int32)) hin162 (g := (mkF m 234 #[iv p1, iv p2, iv p3, iv p4, iv (0 : Int32), .unset, iv ug, iv uf, iv w46, iv w52] [(.int w52), (.int (3 : Int32)), (.ref b147), (.ref b147), (.ref b141), (.ref b141)])) rfl rfl (hb hby at_234)
      refine own_goW st163 ?_
      clear st163 X160 e160
      rw [own_nar8 hp53] at W163
      have f164 : Arv Z h163 b147 k147 .char (4 : Int32) [(.int (45 : Int32)), (.int w46), (.int (46 : Int32)), (.int w52)] (.int (0 : Int32)) := Arv.set Ar162 q162 S162 M162 P162 G162 (by have q := fits_nar_char w52; rw [own_nar8 hp53] at q; exact q) W163 3 rfl (Nat.le_of_ble_eq_true rfl)
      replace N0 := Fr.snoc X163 N0 big149
      replace hJ := own_Jwr hZ hJ W163 (own_farV f161 (by decide) (ow6 hw))
      replace A141 := A141.wr W163
      replace f145 := f145.other W163 (Or.inl ne148)
      replace f146 := f146.other W163 (Or.inl ne148)
      clear f161
      replace O0 := own_oldWr O0 W163 big149
      replace K0 := K0.wr W163 (Or.inr sz150)
      replace K1 := K1.wr W163 (Or.inr sz151)
      replace hS := own_since hS (Nat.le_of_eq W163.size.symm)
      clear W163
      clear Ar162 q162 S162 M162 P162 G162 hin162
      obtain ⟨v165, T165, L165, X165, hQ165, st165⟩ := own_callIB (y := own_y1) X163 hx hZ hown (ow9 hw) (ow10 hw) (ow7 hw) (ow11 hw) 1 1 4 (StrChars.Road.backV (W := 1) hZ (own_sw1 hw) (kI := 4) (ow6 hw) (cs := ([(45 : Int32), w46, (46 : Int32), w52] : List Int32)) (bs := ([(45 : Int32), w46, (46 : Int32), w52] : List Int32).map (fun c => c.toInt8.toInt32)) (n := 4) (n0 := Z.heap.size) big142 (Nat.le_trans O0.1 (Nat.le_refl _)) A141 f146 f145 f164 (oCS.ext O0) oCz rfl rfl (by decide) (by decide) (own_cC (⟨by decide, by decide⟩ : own_C8 (45 : Int32)) (own_cC hp47 (own_cC (⟨by decide, by decide⟩ : own_C8 (46 : Int32)) (own_cC hp53 own_cN)))) rfl (by decide) (by decide)) rfl (by show _ ≤ 40; omega) (by show _ ≤ 4288; omega) e163 (g := (mkF m 235 #[iv p1, iv p2, iv p3, iv p4, iv (0 : Int32), .unset, iv ug, iv uf, iv w46, iv w52] [(.ref b147), (.ref b141), (.ref b141)])) rfl (by rw [hml]; rfl) b141 [(.ref b147)] [(.ref b141)] (lenOf own_pd_39 rfl) rfl rfl (hb hby at_235)
      obtain ⟨rfl, Nc165, Kc165, f1165, f2165, t165, kb165, tb165, ts165, tn165, f3165, f4165⟩ := hQ165
      refine own_goW st165 ?_
      clear st165 X163 e163
      replace N0 := Fr.app N0 Nc165
      clear Nc165
      replace hS := own_since hS Kc165.1
      have ne166 : b141 ≠ t165 := Nat.ne_of_lt (Nat.lt_of_lt_of_le A141.lt ts165)
      have ne167 : b147 ≠ t165 := Nat.ne_of_lt (Nat.lt_of_lt_of_le f164.lt ts165)
      have big168 : Z.heap.size ≤ t165 := Nat.le_trans O0.1 ts165
      have sz169 : h0.size ≤ t165 := Nat.le_trans K0.1 ts165
      have sz170 : hs1.size ≤ t165 := Nat.le_trans K1.1 ts165
      have hAp_b141 := own_apart hZ hJ f146
      replace hJ := own_JkeepS hZ hJ Kc165 hAp_b141 A141 (ow6 hw)
      replace A141 := A141.keep Kc165
      clear f145
      clear f146
      replace f164 := f164.keep Kc165 (ninS ne148.symm nin0)
      replace O0 := own_oldKeep O0 Kc165 (allS big142 all0)
      replace K0 := K0.trans Kc165 (allS (Or.inr sz143) all0)
      replace K1 := K1.trans Kc165 (allS (Or.inr sz144) all0)
      clear Kc165
      replace f4165 : Arv Z T165.heap t165 kb165 .byte (4 : Int32) [(.int ((45 : Int32).toInt8.toInt32)), (.int (w46.toInt8.toInt32)), (.int ((46 : Int32).toInt8.toInt32)), (.int (w52.toInt8.toInt32))] (.int (0 : Int32)) := f4165
      refine own_goW (fun _ k => XS.astore X165.here hx rfl (hb hby at_238) rfl rfl (l' := #[iv p1, iv p2, iv p3, iv p4, iv (0 : Int32), rv b141, iv ug, iv uf, iv w46, iv w52]) rfl (XS.goto X165.here hx rfl (pc0 := 240) (pc' := 335) rfl (hb hby at_240) (by decide) (by decide) k)) ?_
      show own_GoW p e below s _ _ _ _ (T165.setTop (mkF m 335 #[iv p1, iv p2, iv p3, iv p4, iv (0 : Int32), rv b141, iv ug, iv uf, iv w46, iv w52] []))
      have nm171 : own_Num Z T165.heap b141 := Or.inl ⟨_, _, _, _, f3165, f2165, f4165, hp48, hp54⟩
      exact sg_s335n hw hO p1 p2 p3 p4 b141 ug uf w46 w52 h0 T165.heap X165 hS hL hJ hx hby hml hret hlk hZ hown hnm (rfl : T165.heap = T165.heap) N0 O0 K0 f1165 nm171 (by omega) (by omega)
set_option maxRecDepth 65536 in
set_option maxHeartbeats 40000000 in
theorem sg_s169 {l : Launch} {Z : State} {a0 : Array Value} (hw : own_W Z a0) {zc : Int32} {wsf : Value} (hO : own_Olds Z zc wsf) {p : Program} {e : Env} {s : State} {vm0 : Vm} {m : MethodId} {args : Array Value} {below : List Frame} {meth : Method} {c : Code} {T : State} {locs : List Loc} {cells slots : Nat} (p1 : Int32) (p2 : Int32) (p3 : Int32) (p4 : Int32) (ug : Int32) (h0 hs1 : Heap)
    (X0 : Stand p l e room_1 (s.setVm vm0) m args below meth c T locs cells slots) (hS : s.Since vm0 hs1.size) (hL : own_L Z a0) (hJ : own_J Z vm0 hs1) (hx : p.tables.exec = Jvm.exec) (hby : c.code = code) (hml : c.maxLocals = 10) (hret : meth.sig.returnType = some .boolean) (hlk : meth.locks = false) (hZ : Z.Warmed39 (s.setVm vm0).vm) (hown : (s.setVm vm0).vm.findClass "com/example/ibex/ibex/model/ApproximateNumbersHoldsPinLaw" = some m.cls) (hnm : meth.name = "law") (e0 : T.heap = hs1) (N0 : Fr Z.heap.size locs) (O0 : Ext Z.heap hs1) (K0 : Keep h0 hs1 []) (hcells : cells ≤ 0) (hslots : slots ≤ 0) :
    own_GoW p e below s Z (Q_law Z zc wsf p1 p2 p3 p4 h0) room_1.cells room_1.slots (T.setTop (mkF m 169 #[iv p1, iv p2, iv p3, iv p4, iv (0 : Int32), .unset, .unset, .unset, .unset, .unset] [(.int ug)])) := by
  obtain ⟨oCS, oCz, oSF, r_wsf⟩ := id hO
  have K1 := Keep.refl hs1 []
  show own_GoW p e below s _ _ _ _ (T.setTop (mkF m 169 #[iv p1, iv p2, iv p3, iv p4, iv (0 : Int32), .unset, .unset, .unset, .unset, .unset] [(.int ug)]))
  refine own_goW (fun _ k => XS.istore X0.here hx rfl (hb hby at_169) rfl (l' := #[iv p1, iv p2, iv p3, iv p4, iv (0 : Int32), .unset, iv ug, .unset, .unset, .unset]) rfl (XS.iloadN X0.here hx rfl (hb hby at_171) rfl (XS.iconst X0.here hx rfl (hb hby at_172) (XS.ishr X0.here hx rfl (hb hby at_173) rfl (XS.iconst X0.here hx rfl (hb hby at_174) (XS.iand X0.here hx rfl (hb hby at_175) rfl k)))))) ?_
  by_cases hc172 : ((p1 >>> ((2 : Int32) &&& 31)) &&& (1 : Int32)) = (0 : Int32)
  · refine own_goW (fun _ k => XS.ifYes X0.here hx rfl (pc0 := 176) (pc' := 183) rfl (hb hby at_176) rfl ((if0 _ _).trans (teq hc172).1) (by decide) (by decide) k) ?_
    show own_GoW p e below s _ _ _ _ (T.setTop (mkF m 183 #[iv p1, iv p2, iv p3, iv p4, iv (0 : Int32), .unset, iv ug, .unset, .unset, .unset] []))
    refine own_goW (fun _ k => XS.iconst X0.here hx rfl (hb hby at_183) k) ?_
    show own_GoW p e below s _ _ _ _ (T.setTop (mkF m 184 #[iv p1, iv p2, iv p3, iv p4, iv (0 : Int32), .unset, iv ug, .unset, .unset, .unset] [(.int (0 : Int32))]))
    exact sg_s184 hw hO p1 p2 p3 p4 ug (0 : Int32) h0 hs1 X0 hS hL hJ hx hby hml hret hlk hZ hown hnm e0 N0 O0 K0 (by omega) (by omega)
  · refine own_goW (fun _ k => XS.ifNo X0.here hx rfl (hb hby at_176) rfl ((if0 _ _).trans (feq hc172).1) k) ?_
    show own_GoW p e below s _ _ _ _ (T.setTop (mkF m 179 #[iv p1, iv p2, iv p3, iv p4, iv (0 : Int32), .unset, iv ug, .unset, .unset, .unset] []))
    refine own_goW (fun _ k => XS.iconst X0.here hx rfl (hb hby at_179) (XS.goto X0.here hx rfl (pc0 := 180) (pc' := 184) rfl (hb hby at_180) (by decide) (by decide) k)) ?_
    show own_GoW p e below s _ _ _ _ (T.setTop (mkF m 184 #[iv p1, iv p2, iv p3, iv p4, iv (0 : Int32), .unset, iv ug, .unset, .unset, .unset] [(.int (1 : Int32))]))
    exact sg_s184 hw hO p1 p2 p3 p4 ug (1 : Int32) h0 hs1 X0 hS hL hJ hx hby hml hret hlk hZ hown hnm e0 N0 O0 K0 (by omega) (by omega)
theorem ef_law (m : MethodId) (x0 : Int32) (x1 : Int32) (x2 : Int32) (x3 : Int32) : entryFrame m #[(.int x0), (.int x1), (.int x2), (.int x3)] maxLocals = mkF m 0 #[iv x0, iv x1, iv x2, iv x3, .unset, .unset, .unset, .unset, .unset, .unset] [] := by first | (simp [entryFrame, mkF, argsToLocals, Value.category, maxLocals]; done) | rfl
set_option maxRecDepth 65536 in
set_option maxHeartbeats 40000000 in
theorem rm_law (l : Launch) (Z : State) (a0 : Array Value) (hw : own_W Z a0) {zc : Int32} {wsf : Value} (hO : own_Olds Z zc wsf) (ws : List Jvm.Cond) (p1 : Int32) (p2 : Int32) (p3 : Int32) (p4 : Int32) (h0 : Heap) (O0 : Ext Z.heap h0) :
    MetFree l x (head1 (Jvm.Cond.code x code maxLocals ret :: ws) room_1) (fun a U => a = #[(.int p1), (.int p2), (.int p3), (.int p4)] ∧ Z.Warmed39 U.vm ∧ U.heap = h0 ∧ own_J Z U.vm U.heap) (fun _ _ _ _ _ => True) (fun _ U o U' => ∃ v L, o = .returned v ∧ ((Q_law Z zc wsf p1 p2 p3 p4 h0) v U'.heap L ∧ own_J Z U'.vm U'.heap) ∧ ReturnedEndW U o U' L room_1.cells room_1.slots) := by
  refine own_metW (Q := (Q_law Z zc wsf p1 p2 p3 p4 h0)) _ _ (plainFor_of_name own_pn_1) ?_
  intro p e s vm0 m below meth c T X0 hS hJ hJ0 hZ0 hI hs0 hx hby hml hret hlk hZ hown hnm e0
  replace hown : (s.setVm vm0).vm.findClass "com/example/ibex/ibex/model/ApproximateNumbersHoldsPinLaw" = some m.cls := hown
  replace hnm : meth.name = "law" := hnm
  have hml : c.maxLocals = 10 := hml
  obtain ⟨oCS, oCz, oSF, r_wsf⟩ := id hO
  have N0 := Fr.nil Z.heap.size
  have hL := own_Lhw hw
  have K0 := Keep.refl h0 []
  refine own_goW (fun _ k => castTop (ef_law m p1 p2 p3 p4) k) ?_
  show own_GoW p e below s _ _ _ _ (T.setTop (mkF m 0 #[iv p1, iv p2, iv p3, iv p4, .unset, .unset, .unset, .unset, .unset, .unset] []))
  refine own_goW (fun _ k => XS.iloadN X0.here hx rfl (hb hby at_0) rfl (XS.iconst X0.here hx rfl (hb hby at_1) (XS.iand X0.here hx rfl (hb hby at_2) rfl k))) ?_
  by_cases hc173 : (p1 &&& (1 : Int32)) = (0 : Int32)
  · refine own_goW (fun _ k => XS.ifYes X0.here hx rfl (pc0 := 3) (pc' := 10) rfl (hb hby at_3) rfl ((if0 _ _).trans (teq hc173).1) (by decide) (by decide) k) ?_
    show own_GoW p e below s _ _ _ _ (T.setTop (mkF m 10 #[iv p1, iv p2, iv p3, iv p4, .unset, .unset, .unset, .unset, .unset, .unset] []))
    refine own_goW (fun _ k => XS.iconst X0.here hx rfl (hb hby at_10) (XS.istore X0.here hx rfl (hb hby at_11) rfl (l' := #[iv p1, iv p2, iv p3, iv p4, iv (0 : Int32), .unset, .unset, .unset, .unset, .unset]) rfl (XS.iload X0.here hx rfl (hb hby at_13) rfl (XS.ifYes X0.here hx rfl (pc0 := 15) (pc' := 156) rfl (hb hby at_15) rfl ((if0 _ _).trans (teq (by decide : (0 : Int32) = (0 : Int32))).1) (by decide) (by decide) (XS.iloadN X0.here hx rfl (hb hby at_156) rfl (XS.iconst X0.here hx rfl (hb hby at_157) (XS.ishr X0.here hx rfl (hb hby at_158) rfl (XS.iconst X0.here hx rfl (hb hby at_159) k)))))))) ?_
    show own_GoW p e below s _ _ _ _ (T.setTop (mkF m 160 #[iv p1, iv p2, iv p3, iv p4, iv (0 : Int32), .unset, .unset, .unset, .unset, .unset] [(.int (1 : Int32)), (.int (p1 >>> ((1 : Int32) &&& 31)))]))
    refine own_goW (fun _ k => XS.iand X0.here hx rfl (hb hby at_160) rfl k) ?_
    by_cases hc174 : ((p1 >>> ((1 : Int32) &&& 31)) &&& (1 : Int32)) = (0 : Int32)
    · refine own_goW (fun _ k => XS.ifYes X0.here hx rfl (pc0 := 161) (pc' := 168) rfl (hb hby at_161) rfl ((if0 _ _).trans (teq hc174).1) (by decide) (by decide) k) ?_
      show own_GoW p e below s _ _ _ _ (T.setTop (mkF m 168 #[iv p1, iv p2, iv p3, iv p4, iv (0 : Int32), .unset, .unset, .unset, .unset, .unset] []))
      refine own_goW (fun _ k => XS.iconst X0.here hx rfl (hb hby at_168) k) ?_
      show own_GoW p e below s _ _ _ _ (T.setTop (mkF m 169 #[iv p1, iv p2, iv p3, iv p4, iv (0 : Int32), .unset, .unset, .unset, .unset, .unset] [(.int (0 : Int32))]))
      exact sg_s169 hw hO p1 p2 p3 p4 (0 : Int32) h0 h0 X0 hS hL hJ hx hby hml hret hlk hZ hown hnm e0 N0 O0 K0 (by omega) (by omega)
    · refine own_goW (fun _ k => XS.ifNo X0.here hx rfl (hb hby at_161) rfl ((if0 _ _).trans (feq hc174).1) k) ?_
      show own_GoW p e below s _ _ _ _ (T.setTop (mkF m 164 #[iv p1, iv p2, iv p3, iv p4, iv (0 : Int32), .unset, .unset, .unset, .unset, .unset] []))
      refine own_goW (fun _ k => XS.iconst X0.here hx rfl (hb hby at_164) (XS.goto X0.here hx rfl (pc0 := 165) (pc' := 169) rfl (hb hby at_165) (by decide) (by decide) k)) ?_
      show own_GoW p e below s _ _ _ _ (T.setTop (mkF m 169 #[iv p1, iv p2, iv p3, iv p4, iv (0 : Int32), .unset, .unset, .unset, .unset, .unset] [(.int (1 : Int32))]))
      exact sg_s169 hw hO p1 p2 p3 p4 (1 : Int32) h0 h0 X0 hS hL hJ hx hby hml hret hlk hZ hown hnm e0 N0 O0 K0 (by omega) (by omega)
  · refine own_goW (fun _ k => XS.ifNo X0.here hx rfl (hb hby at_3) rfl ((if0 _ _).trans (feq hc173).1) k) ?_
    show own_GoW p e below s _ _ _ _ (T.setTop (mkF m 6 #[iv p1, iv p2, iv p3, iv p4, .unset, .unset, .unset, .unset, .unset, .unset] []))
    refine own_goW (fun _ k => XS.iconst X0.here hx rfl (hb hby at_6) (XS.goto X0.here hx rfl (pc0 := 7) (pc' := 11) rfl (hb hby at_7) (by decide) (by decide) (XS.istore X0.here hx rfl (hb hby at_11) rfl (l' := #[iv p1, iv p2, iv p3, iv p4, iv (1 : Int32), .unset, .unset, .unset, .unset, .unset]) rfl (XS.iload X0.here hx rfl (hb hby at_13) rfl (XS.ifNo X0.here hx rfl (hb hby at_15) rfl ((if0 _ _).trans (feq (by decide : ¬ ((1 : Int32) = (0 : Int32)))).1) (XS.iloadN X0.here hx rfl (hb hby at_18) rfl (XS.iconst X0.here hx rfl (hb hby at_19) (XS.ishr X0.here hx rfl (hb hby at_20) rfl k)))))))) ?_
    show own_GoW p e below s _ _ _ _ (T.setTop (mkF m 21 #[iv p1, iv p2, iv p3, iv p4, iv (1 : Int32), .unset, .unset, .unset, .unset, .unset] [(.int (p1 >>> ((1 : Int32) &&& 31)))]))
    refine own_goW (fun _ k => XS.iconst X0.here hx rfl (hb hby at_21) (XS.iand X0.here hx rfl (hb hby at_22) rfl (XS.istore X0.here hx rfl (hb hby at_23) rfl (l' := #[iv p1, iv p2, iv p3, iv p4, iv (1 : Int32), .unset, iv ((p1 >>> ((1 : Int32) &&& 31)) &&& (3 : Int32)), .unset, .unset, .unset]) rfl (XS.iloadN X0.here hx rfl (hb hby at_25) rfl (XS.sipush X0.here hx rfl (hb hby at_26) (XS.iand X0.here hx rfl (hb hby at_29) rfl (XS.i2c X0.here hx rfl (hb hby at_30) rfl k))))))) ?_
    show own_GoW p e below s _ _ _ _ (T.setTop (mkF m 31 #[iv p1, iv p2, iv p3, iv p4, iv (1 : Int32), .unset, iv ((p1 >>> ((1 : Int32) &&& 31)) &&& (3 : Int32)), .unset, .unset, .unset] [(.int ((p2 &&& (255 : Int32)).toUInt32.toUInt16.toUInt32.toInt32))]))
    rw [i2c_mask p2]
    refine own_goW (fun _ k => XS.istore X0.here hx rfl (hb hby at_31) rfl (l' := #[iv p1, iv p2, iv p3, iv p4, iv (1 : Int32), .unset, iv ((p1 >>> ((1 : Int32) &&& 31)) &&& (3 : Int32)), iv (p2 &&& (255 : Int32)), .unset, .unset]) rfl k) ?_
    show own_GoW p e below s _ _ _ _ (T.setTop (mkF m 33 #[iv p1, iv p2, iv p3, iv p4, iv (1 : Int32), .unset, iv ((p1 >>> ((1 : Int32) &&& 31)) &&& (3 : Int32)), iv (p2 &&& (255 : Int32)), .unset, .unset] []))
    refine own_goW (fun _ k => XS.iloadN X0.here hx rfl (hb hby at_33) rfl (XS.sipush X0.here hx rfl (hb hby at_34) (XS.iand X0.here hx rfl (hb hby at_37) rfl (XS.i2c X0.here hx rfl (hb hby at_38) rfl k)))) ?_
    show own_GoW p e below s _ _ _ _ (T.setTop (mkF m 39 #[iv p1, iv p2, iv p3, iv p4, iv (1 : Int32), .unset, iv ((p1 >>> ((1 : Int32) &&& 31)) &&& (3 : Int32)), iv (p2 &&& (255 : Int32)), .unset, .unset] [(.int ((p3 &&& (255 : Int32)).toUInt32.toUInt16.toUInt32.toInt32))]))
    rw [i2c_mask p3]
    refine own_goW (fun _ k => XS.istore X0.here hx rfl (hb hby at_39) rfl (l' := #[iv p1, iv p2, iv p3, iv p4, iv (1 : Int32), .unset, iv ((p1 >>> ((1 : Int32) &&& 31)) &&& (3 : Int32)), iv (p2 &&& (255 : Int32)), iv (p3 &&& (255 : Int32)), .unset]) rfl (XS.iloadN X0.here hx rfl (hb hby at_41) rfl (XS.sipush X0.here hx rfl (hb hby at_42) (XS.iand X0.here hx rfl (hb hby at_45) rfl k)))) ?_
    show own_GoW p e below s _ _ _ _ (T.setTop (mkF m 46 #[iv p1, iv p2, iv p3, iv p4, iv (1 : Int32), .unset, iv ((p1 >>> ((1 : Int32) &&& 31)) &&& (3 : Int32)), iv (p2 &&& (255 : Int32)), iv (p3 &&& (255 : Int32)), .unset] [(.int (p4 &&& (255 : Int32)))]))
    refine own_goW (fun _ k => XS.i2c X0.here hx rfl (hb hby at_46) rfl k) ?_
    show own_GoW p e below s _ _ _ _ (T.setTop (mkF m 47 #[iv p1, iv p2, iv p3, iv p4, iv (1 : Int32), .unset, iv ((p1 >>> ((1 : Int32) &&& 31)) &&& (3 : Int32)), iv (p2 &&& (255 : Int32)), iv (p3 &&& (255 : Int32)), .unset] [(.int ((p4 &&& (255 : Int32)).toUInt32.toUInt16.toUInt32.toInt32))]))
    rw [i2c_mask p4]
    refine own_goW (fun _ k => XS.istore X0.here hx rfl (hb hby at_47) rfl (l' := #[iv p1, iv p2, iv p3, iv p4, iv (1 : Int32), .unset, iv ((p1 >>> ((1 : Int32) &&& 31)) &&& (3 : Int32)), iv (p2 &&& (255 : Int32)), iv (p3 &&& (255 : Int32)), iv (p4 &&& (255 : Int32))]) rfl (XS.iload X0.here hx rfl (hb hby at_49) rfl k)) ?_
    by_cases hc175 : ((p1 >>> ((1 : Int32) &&& 31)) &&& (3 : Int32)) = (0 : Int32)
    · refine own_goW (fun _ k => XS.ifNo X0.here hx rfl (hb hby at_51) rfl ((if0 _ _).trans (teq hc175).2) k) ?_
      show own_GoW p e below s _ _ _ _ (T.setTop (mkF m 54 #[iv p1, iv p2, iv p3, iv p4, iv (1 : Int32), .unset, iv ((p1 >>> ((1 : Int32) &&& 31)) &&& (3 : Int32)), iv (p2 &&& (255 : Int32)), iv (p3 &&& (255 : Int32)), iv (p4 &&& (255 : Int32))] []))
      obtain ⟨T176, h176, X176, e176, E176, A176, D176, -, st176⟩ := newO X0 hx hZ hown (ow5 hw) (ow6 hw) (ow7 hw) e0 (g := (mkF m 54 #[iv p1, iv p2, iv p3, iv p4, iv (1 : Int32), .unset, iv ((p1 >>> ((1 : Int32) &&& 31)) &&& (3 : Int32)), iv (p2 &&& (255 : Int32)), iv (p3 &&& (255 : Int32)), iv (p4 &&& (255 : Int32))] [])) rfl (hb hby at_54) (by show _ ≤ 40; omega) (by show _ ≤ 4288; omega)
      obtain ⟨b176, g176⟩ : ∃ z, z = h0.size := ⟨_, rfl⟩
      rw [← g176] at A176 D176 st176
      refine own_goW st176 ?_
      clear st176 X0 e0
      have ge176 := Nat.le_of_eq g176.symm
      have big177 : Z.heap.size ≤ b176 := Nat.le_trans O0.1 ge176
      have sz178 : h0.size ≤ b176 := Nat.le_trans K0.1 ge176
      replace O0 := own_oldExt O0 E176
      replace K0 := K0.ext E176
      replace hS := own_since hS E176.1
      replace hJ := own_Jext hJ E176
      clear E176
      have f179 : Fld Z h176 b176 "java/lang/String" "coder" "B" (.int (0 : Int32)) := D176 (Or.inr (ow32 hw)) (ty := .byte) own_fd1
      have f180 : Fld Z h176 b176 "java/lang/String" "value" "[B" .null := D176 (Or.inr (ow34 hw)) (ty := (.array .byte)) own_fd0
      refine own_goW (fun _ k => XS.dup X176.here hx rfl (hb hby at_57) rfl rfl (XS.iconst X176.here hx rfl (hb hby at_58) k)) ?_
      obtain ⟨T181, h181, k181, X181, e181, E181, A181, st181⟩ := newP (aty := .char) X176 hx hZ (ow8 hw) e176 (g := (mkF m 59 #[iv p1, iv p2, iv p3, iv p4, iv (1 : Int32), .unset, iv ((p1 >>> ((1 : Int32) &&& 31)) &&& (3 : Int32)), iv (p2 &&& (255 : Int32)), iv (p3 &&& (255 : Int32)), iv (p4 &&& (255 : Int32))] [(.int (0 : Int32)), (.ref b176), (.ref b176)])) rfl (hb hby at_59) rfl (by decide) (cap := 0) (by decide) (by decide) (by show _ ≤ 40; omega) (by show _ ≤ 4288; omega)
      obtain ⟨b181, g181⟩ : ∃ z, z = h176.size := ⟨_, rfl⟩
      rw [← g181] at A181 st181
      refine own_goW st181 ?_
      clear st181 X176 e176
      have ge181 := Nat.le_of_eq g181.symm
      have ne182 : b176 ≠ b181 := Nat.ne_of_lt (Nat.lt_of_lt_of_le A176.lt ge181)
      have big183 : Z.heap.size ≤ b181 := Nat.le_trans O0.1 ge181
      have sz184 : h0.size ≤ b181 := Nat.le_trans K0.1 ge181
      replace A176 := A176.ext E181
      replace f179 := f179.ext E181
      replace f180 := f180.ext E181
      replace O0 := own_oldExt O0 E181
      replace K0 := K0.ext E181
      replace hS := own_since hS E181.1
      replace hJ := own_Jext hJ E181
      clear E181
      have f185 : Arv Z h181 b181 k181 .char (0 : Int32) [] (.int (0 : Int32)) := (Arv.new A181 (by decide)).pad (pad_rep [] (.int (0 : Int32)) 0)
      obtain ⟨v186, T186, L186, X186, hSn, hZn, hownn, hQ186, hJn, st186⟩ := own_callIW (y := own_y1) X181 hS hL hJ hx hZ hown (ow9 hw) (ow10 hw) (ow7 hw) (ow11 hw) (rm_st1E l Z a0 hw hO [] b176 b181 k181 h181 O0 A176 f180 f179 f185 big177) 1 2 4 rfl (by show _ ≤ 40; omega) (by show _ ≤ 4288; omega) e181 (g := (mkF m 61 #[iv p1, iv p2, iv p3, iv p4, iv (1 : Int32), .unset, iv ((p1 >>> ((1 : Int32) &&& 31)) &&& (3 : Int32)), iv (p2 &&& (255 : Int32)), iv (p3 &&& (255 : Int32)), iv (p4 &&& (255 : Int32))] [(.ref b181), (.ref b176), (.ref b176)])) rfl (by rw [hml]; rfl) b176 [(.ref b181)] [(.ref b176)] (lenOf own_pd_39 rfl) rfl rfl (hb hby at_61)
      replace hS := hSn
      replace hZ := hZn
      replace hown := hownn
      replace hJ := hJn
      clear hSn hZn hownn hJn
      obtain ⟨w187, w188, rfl, Nc194, Kc193, f189, f190, f191, f192⟩ := hQ186
      refine own_goW st186 ?_
      clear st186 X181 e181
      replace N0 := Fr.app N0 Nc194
      clear Nc194
      replace A176 := A176.keep Kc193
      clear f179
      clear f180
      replace f185 := f185.keep Kc193 (ninS ne182.symm nin0)
      replace O0 := own_oldKeep O0 Kc193 (allS big177 all0)
      replace K0 := K0.trans Kc193 (allS (Or.inr sz178) all0)
      clear Kc193
      refine own_goW (fun _ k => XS.astore X186.here hx rfl (hb hby at_64) rfl rfl (l' := #[iv p1, iv p2, iv p3, iv p4, iv (1 : Int32), rv b176, iv ((p1 >>> ((1 : Int32) &&& 31)) &&& (3 : Int32)), iv (p2 &&& (255 : Int32)), iv (p3 &&& (255 : Int32)), iv (p4 &&& (255 : Int32))]) rfl (XS.goto X186.here hx rfl (pc0 := 66) (pc' := 153) rfl (hb hby at_66) (by decide) (by decide) (XS.goto X186.here hx rfl (pc0 := 153) (pc' := 335) rfl (hb hby at_153) (by decide) (by decide) k))) ?_
      show own_GoW p e below s _ _ _ _ (T186.setTop (mkF m 335 #[iv p1, iv p2, iv p3, iv p4, iv (1 : Int32), rv b176, iv ((p1 >>> ((1 : Int32) &&& 31)) &&& (3 : Int32)), iv (p2 &&& (255 : Int32)), iv (p3 &&& (255 : Int32)), iv (p4 &&& (255 : Int32))] []))
      exact sg_s335s hw hO p1 p2 p3 p4 b176 ((p1 >>> ((1 : Int32) &&& 31)) &&& (3 : Int32)) (p2 &&& (255 : Int32)) (p3 &&& (255 : Int32)) (p4 &&& (255 : Int32)) h0 T186.heap X186 hS hL hJ hx hby hml hret hlk hZ hown hnm (rfl : T186.heap = T186.heap) N0 O0 K0 f189 (by omega) (by omega)
    · refine own_goW (fun _ k => XS.ifYes X0.here hx rfl (pc0 := 51) (pc' := 69) rfl (hb hby at_51) rfl ((if0 _ _).trans (feq hc175).2) (by decide) (by decide) k) ?_
      show own_GoW p e below s _ _ _ _ (T.setTop (mkF m 69 #[iv p1, iv p2, iv p3, iv p4, iv (1 : Int32), .unset, iv ((p1 >>> ((1 : Int32) &&& 31)) &&& (3 : Int32)), iv (p2 &&& (255 : Int32)), iv (p3 &&& (255 : Int32)), iv (p4 &&& (255 : Int32))] []))
      refine own_goW (fun _ k => XS.iload X0.here hx rfl (hb hby at_69) rfl (XS.iconst X0.here hx rfl (hb hby at_71) k)) ?_
      by_cases hc195 : ((p1 >>> ((1 : Int32) &&& 31)) &&& (3 : Int32)) = (1 : Int32)
      · refine own_goW (fun _ k => XS.icmpNo X0.here hx rfl (hb hby at_72) rfl (teq hc195).2 k) ?_
        show own_GoW p e below s _ _ _ _ (T.setTop (mkF m 75 #[iv p1, iv p2, iv p3, iv p4, iv (1 : Int32), .unset, iv ((p1 >>> ((1 : Int32) &&& 31)) &&& (3 : Int32)), iv (p2 &&& (255 : Int32)), iv (p3 &&& (255 : Int32)), iv (p4 &&& (255 : Int32))] []))
        obtain ⟨T196, h196, X196, e196, E196, A196, D196, -, st196⟩ := newO X0 hx hZ hown (ow5 hw) (ow6 hw) (ow7 hw) e0 (g := (mkF m 75 #[iv p1, iv p2, iv p3, iv p4, iv (1 : Int32), .unset, iv ((p1 >>> ((1 : Int32) &&& 31)) &&& (3 : Int32)), iv (p2 &&& (255 : Int32)), iv (p3 &&& (255 : Int32)), iv (p4 &&& (255 : Int32))] [])) rfl (hb hby at_75) (by show _ ≤ 40; omega) (by show _ ≤ 4288; omega)
        obtain ⟨b196, g196⟩ : ∃ z, z = h0.size := ⟨_, rfl⟩
        rw [← g196] at A196 D196 st196
        refine own_goW st196 ?_
        clear st196 X0 e0
        have ge196 := Nat.le_of_eq g196.symm
        have big197 : Z.heap.size ≤ b196 := Nat.le_trans O0.1 ge196
        have sz198 : h0.size ≤ b196 := Nat.le_trans K0.1 ge196
        replace O0 := own_oldExt O0 E196
        replace K0 := K0.ext E196
        replace hS := own_since hS E196.1
        replace hJ := own_Jext hJ E196
        clear E196
        have f199 : Fld Z h196 b196 "java/lang/String" "coder" "B" (.int (0 : Int32)) := D196 (Or.inr (ow32 hw)) (ty := .byte) own_fd1
        have f200 : Fld Z h196 b196 "java/lang/String" "value" "[B" .null := D196 (Or.inr (ow34 hw)) (ty := (.array .byte)) own_fd0
        refine own_goW (fun _ k => XS.dup X196.here hx rfl (hb hby at_78) rfl rfl (XS.iconst X196.here hx rfl (hb hby at_79) k)) ?_
        obtain ⟨T201, h201, k201, X201, e201, E201, A201, st201⟩ := newP (aty := .char) X196 hx hZ (ow8 hw) e196 (g := (mkF m 80 #[iv p1, iv p2, iv p3, iv p4, iv (1 : Int32), .unset, iv ((p1 >>> ((1 : Int32) &&& 31)) &&& (3 : Int32)), iv (p2 &&& (255 : Int32)), iv (p3 &&& (255 : Int32)), iv (p4 &&& (255 : Int32))] [(.int (1 : Int32)), (.ref b196), (.ref b196)])) rfl (hb hby at_80) rfl (by decide) (cap := 1) (by decide) (by decide) (by show _ ≤ 40; omega) (by show _ ≤ 4288; omega)
        obtain ⟨b201, g201⟩ : ∃ z, z = h196.size := ⟨_, rfl⟩
        rw [← g201] at A201 st201
        refine own_goW st201 ?_
        clear st201 X196 e196
        have ge201 := Nat.le_of_eq g201.symm
        have ne202 : b196 ≠ b201 := Nat.ne_of_lt (Nat.lt_of_lt_of_le A196.lt ge201)
        have big203 : Z.heap.size ≤ b201 := Nat.le_trans O0.1 ge201
        have sz204 : h0.size ≤ b201 := Nat.le_trans K0.1 ge201
        replace A196 := A196.ext E201
        replace f199 := f199.ext E201
        replace f200 := f200.ext E201
        replace O0 := own_oldExt O0 E201
        replace K0 := K0.ext E201
        replace hS := own_since hS E201.1
        replace hJ := own_Jext hJ E201
        clear E201
        have f205 : Arv Z h201 b201 k201 .char (1 : Int32) [(.int (0 : Int32))] (.int (0 : Int32)) := (Arv.new A201 (by decide)).pad (pad_rep [] (.int (0 : Int32)) 1)
        refine own_goW (fun _ k => XS.dup X201.here hx rfl (hb hby at_82) rfl rfl (XS.iconst X201.here hx rfl (hb hby at_83) (XS.iload X201.here hx rfl (hb hby at_84) rfl k))) ?_
        obtain ⟨cl206, Ar206, q206, S206, M206, P206, G206⟩ := id f205
        have hin206 : ¬ ((0 : Int32) < 0 ∨ cl206.slots.size ≤ ((0 : Int32)).toNatClampNeg) := inb_of S206 ⟨by decide, by decide⟩
        obtain ⟨T207, h207, X207, e207, W207, st207⟩ := stC X201 hx hZ e201 Ar206 (j := (0 : Int32)) hin206 (g := (mkF m 86 #[iv p1, iv p2, iv p3, iv p4, iv (1 : Int32), .unset, iv ((p1 >>> ((1 : Int32) &&& 31)) &&& (3 : Int32)), iv (p2 &&& (255 : Int32)), iv (p3 &&& (255 : Int32)), iv (p4 &&& (255 : Int32))] [(.int (p2 &&& (255 : Int32))), (.int (0 : Int32)), (.ref b201), (.ref b201), (.ref b196), (.ref b196)])) rfl rfl (hb hby at_86)
        refine own_goW st207 ?_
        clear st207 X201 e201
        rw [own_narM p2] at W207
        have f208 : Arv Z h207 b201 k201 .char (1 : Int32) [(.int (p2 &&& (255 : Int32)))] (.int (0 : Int32)) := Arv.set Ar206 q206 S206 M206 P206 G206 (by have q := fits_nar_char (p2 &&& (255 : Int32)); rw [own_narM p2] at q; exact q) W207 0 rfl (Nat.le_of_ble_eq_true rfl)
        replace N0 := Fr.snoc X207 N0 big203
        replace hJ := own_Jwr hZ hJ W207 (own_farV f205 (by decide) (ow6 hw))
        replace A196 := A196.wr W207
        replace f199 := f199.other W207 (Or.inl ne202)
        replace f200 := f200.other W207 (Or.inl ne202)
        clear f205
        replace O0 := own_oldWr O0 W207 big203
        replace K0 := K0.wr W207 (Or.inr sz204)
        replace hS := own_since hS (Nat.le_of_eq W207.size.symm)
        clear W207
        clear Ar206 q206 S206 M206 P206 G206 hin206
        show own_GoW p e below s _ _ _ _ (T207.setTop (mkF m 87 #[iv p1, iv p2, iv p3, iv p4, iv (1 : Int32), .unset, iv ((p1 >>> ((1 : Int32) &&& 31)) &&& (3 : Int32)), iv (p2 &&& (255 : Int32)), iv (p3 &&& (255 : Int32)), iv (p4 &&& (255 : Int32))] [(.ref b201), (.ref b196), (.ref b196)]))
        obtain ⟨v209, T209, L209, X209, hQ209, st209⟩ := own_callIB (y := own_y1) X207 hx hZ hown (ow9 hw) (ow10 hw) (ow7 hw) (ow11 hw) 1 1 1 (StrChars.Road.backV (W := 1) hZ (own_sw1 hw) (kI := 4) (ow6 hw) (cs := ([(p2 &&& (255 : Int32))] : List Int32)) (bs := ([(p2 &&& (255 : Int32))] : List Int32).map (fun c => c.toInt8.toInt32)) (n := 1) (n0 := Z.heap.size) big197 (Nat.le_trans O0.1 (Nat.le_refl _)) A196 f200 f199 f208 (oCS.ext O0) oCz rfl rfl (by decide) (by decide) (own_cC (own_c8m p2) own_cN) rfl (by decide) (by decide)) rfl (by show _ ≤ 40; omega) (by show _ ≤ 4288; omega) e207 (g := (mkF m 87 #[iv p1, iv p2, iv p3, iv p4, iv (1 : Int32), .unset, iv ((p1 >>> ((1 : Int32) &&& 31)) &&& (3 : Int32)), iv (p2 &&& (255 : Int32)), iv (p3 &&& (255 : Int32)), iv (p4 &&& (255 : Int32))] [(.ref b201), (.ref b196), (.ref b196)])) rfl (by rw [hml]; rfl) b196 [(.ref b201)] [(.ref b196)] (lenOf own_pd_39 rfl) rfl rfl (hb hby at_87)
        obtain ⟨rfl, Nc209, Kc209, f1209, f2209, t209, kb209, tb209, ts209, tn209, f3209, f4209⟩ := hQ209
        refine own_goW st209 ?_
        clear st209 X207 e207
        replace N0 := Fr.app N0 Nc209
        clear Nc209
        replace hS := own_since hS Kc209.1
        have ne210 : b196 ≠ t209 := Nat.ne_of_lt (Nat.lt_of_lt_of_le A196.lt ts209)
        have ne211 : b201 ≠ t209 := Nat.ne_of_lt (Nat.lt_of_lt_of_le f208.lt ts209)
        have big212 : Z.heap.size ≤ t209 := Nat.le_trans O0.1 ts209
        have sz213 : h0.size ≤ t209 := Nat.le_trans K0.1 ts209
        have hAp_b196 := own_apart hZ hJ f200
        replace hJ := own_JkeepS hZ hJ Kc209 hAp_b196 A196 (ow6 hw)
        replace A196 := A196.keep Kc209
        clear f199
        clear f200
        replace f208 := f208.keep Kc209 (ninS ne202.symm nin0)
        replace O0 := own_oldKeep O0 Kc209 (allS big197 all0)
        replace K0 := K0.trans Kc209 (allS (Or.inr sz198) all0)
        clear Kc209
        replace f4209 : Arv Z T209.heap t209 kb209 .byte (1 : Int32) [(.int ((p2 &&& (255 : Int32)).toInt8.toInt32))] (.int (0 : Int32)) := f4209
        refine own_goW (fun _ k => XS.astore X209.here hx rfl (hb hby at_90) rfl rfl (l' := #[iv p1, iv p2, iv p3, iv p4, iv (1 : Int32), rv b196, iv ((p1 >>> ((1 : Int32) &&& 31)) &&& (3 : Int32)), iv (p2 &&& (255 : Int32)), iv (p3 &&& (255 : Int32)), iv (p4 &&& (255 : Int32))]) rfl (XS.goto X209.here hx rfl (pc0 := 92) (pc' := 153) rfl (hb hby at_92) (by decide) (by decide) (XS.goto X209.here hx rfl (pc0 := 153) (pc' := 335) rfl (hb hby at_153) (by decide) (by decide) k))) ?_
        show own_GoW p e below s _ _ _ _ (T209.setTop (mkF m 335 #[iv p1, iv p2, iv p3, iv p4, iv (1 : Int32), rv b196, iv ((p1 >>> ((1 : Int32) &&& 31)) &&& (3 : Int32)), iv (p2 &&& (255 : Int32)), iv (p3 &&& (255 : Int32)), iv (p4 &&& (255 : Int32))] []))
        exact sg_s335s hw hO p1 p2 p3 p4 b196 ((p1 >>> ((1 : Int32) &&& 31)) &&& (3 : Int32)) (p2 &&& (255 : Int32)) (p3 &&& (255 : Int32)) (p4 &&& (255 : Int32)) h0 T209.heap X209 hS hL hJ hx hby hml hret hlk hZ hown hnm (rfl : T209.heap = T209.heap) N0 O0 K0 f1209 (by omega) (by omega)
      · refine own_goW (fun _ k => XS.icmpYes X0.here hx rfl (pc0 := 72) (pc' := 95) rfl (hb hby at_72) rfl (feq hc195).2 (by decide) (by decide) k) ?_
        show own_GoW p e below s _ _ _ _ (T.setTop (mkF m 95 #[iv p1, iv p2, iv p3, iv p4, iv (1 : Int32), .unset, iv ((p1 >>> ((1 : Int32) &&& 31)) &&& (3 : Int32)), iv (p2 &&& (255 : Int32)), iv (p3 &&& (255 : Int32)), iv (p4 &&& (255 : Int32))] []))
        refine own_goW (fun _ k => XS.iload X0.here hx rfl (hb hby at_95) rfl (XS.iconst X0.here hx rfl (hb hby at_97) k)) ?_
        by_cases hc214 : ((p1 >>> ((1 : Int32) &&& 31)) &&& (3 : Int32)) = (2 : Int32)
        · refine own_goW (fun _ k => XS.icmpNo X0.here hx rfl (hb hby at_98) rfl (teq hc214).2 k) ?_
          show own_GoW p e below s _ _ _ _ (T.setTop (mkF m 101 #[iv p1, iv p2, iv p3, iv p4, iv (1 : Int32), .unset, iv ((p1 >>> ((1 : Int32) &&& 31)) &&& (3 : Int32)), iv (p2 &&& (255 : Int32)), iv (p3 &&& (255 : Int32)), iv (p4 &&& (255 : Int32))] []))
          obtain ⟨T215, h215, X215, e215, E215, A215, D215, -, st215⟩ := newO X0 hx hZ hown (ow5 hw) (ow6 hw) (ow7 hw) e0 (g := (mkF m 101 #[iv p1, iv p2, iv p3, iv p4, iv (1 : Int32), .unset, iv ((p1 >>> ((1 : Int32) &&& 31)) &&& (3 : Int32)), iv (p2 &&& (255 : Int32)), iv (p3 &&& (255 : Int32)), iv (p4 &&& (255 : Int32))] [])) rfl (hb hby at_101) (by show _ ≤ 40; omega) (by show _ ≤ 4288; omega)
          obtain ⟨b215, g215⟩ : ∃ z, z = h0.size := ⟨_, rfl⟩
          rw [← g215] at A215 D215 st215
          refine own_goW st215 ?_
          clear st215 X0 e0
          have ge215 := Nat.le_of_eq g215.symm
          have big216 : Z.heap.size ≤ b215 := Nat.le_trans O0.1 ge215
          have sz217 : h0.size ≤ b215 := Nat.le_trans K0.1 ge215
          replace O0 := own_oldExt O0 E215
          replace K0 := K0.ext E215
          replace hS := own_since hS E215.1
          replace hJ := own_Jext hJ E215
          clear E215
          have f218 : Fld Z h215 b215 "java/lang/String" "coder" "B" (.int (0 : Int32)) := D215 (Or.inr (ow32 hw)) (ty := .byte) own_fd1
          have f219 : Fld Z h215 b215 "java/lang/String" "value" "[B" .null := D215 (Or.inr (ow34 hw)) (ty := (.array .byte)) own_fd0
          refine own_goW (fun _ k => XS.dup X215.here hx rfl (hb hby at_104) rfl rfl (XS.iconst X215.here hx rfl (hb hby at_105) k)) ?_
          obtain ⟨T220, h220, k220, X220, e220, E220, A220, st220⟩ := newP (aty := .char) X215 hx hZ (ow8 hw) e215 (g := (mkF m 106 #[iv p1, iv p2, iv p3, iv p4, iv (1 : Int32), .unset, iv ((p1 >>> ((1 : Int32) &&& 31)) &&& (3 : Int32)), iv (p2 &&& (255 : Int32)), iv (p3 &&& (255 : Int32)), iv (p4 &&& (255 : Int32))] [(.int (2 : Int32)), (.ref b215), (.ref b215)])) rfl (hb hby at_106) rfl (by decide) (cap := 2) (by decide) (by decide) (by show _ ≤ 40; omega) (by show _ ≤ 4288; omega)
          obtain ⟨b220, g220⟩ : ∃ z, z = h215.size := ⟨_, rfl⟩
          rw [← g220] at A220 st220
          refine own_goW st220 ?_
          clear st220 X215 e215
          have ge220 := Nat.le_of_eq g220.symm
          have ne221 : b215 ≠ b220 := Nat.ne_of_lt (Nat.lt_of_lt_of_le A215.lt ge220)
          have big222 : Z.heap.size ≤ b220 := Nat.le_trans O0.1 ge220
          have sz223 : h0.size ≤ b220 := Nat.le_trans K0.1 ge220
          replace A215 := A215.ext E220
          replace f218 := f218.ext E220
          replace f219 := f219.ext E220
          replace O0 := own_oldExt O0 E220
          replace K0 := K0.ext E220
          replace hS := own_since hS E220.1
          replace hJ := own_Jext hJ E220
          clear E220
          have f224 : Arv Z h220 b220 k220 .char (2 : Int32) [(.int (0 : Int32)), (.int (0 : Int32))] (.int (0 : Int32)) := (Arv.new A220 (by decide)).pad (pad_rep [] (.int (0 : Int32)) 2)
          refine own_goW (fun _ k => XS.dup X220.here hx rfl (hb hby at_108) rfl rfl (XS.iconst X220.here hx rfl (hb hby at_109) (XS.iload X220.here hx rfl (hb hby at_110) rfl k))) ?_
          obtain ⟨cl225, Ar225, q225, S225, M225, P225, G225⟩ := id f224
          have hin225 : ¬ ((0 : Int32) < 0 ∨ cl225.slots.size ≤ ((0 : Int32)).toNatClampNeg) := inb_of S225 ⟨by decide, by decide⟩
          obtain ⟨T226, h226, X226, e226, W226, st226⟩ := stC X220 hx hZ e220 Ar225 (j := (0 : Int32)) hin225 (g := (mkF m 112 #[iv p1, iv p2, iv p3, iv p4, iv (1 : Int32), .unset, iv ((p1 >>> ((1 : Int32) &&& 31)) &&& (3 : Int32)), iv (p2 &&& (255 : Int32)), iv (p3 &&& (255 : Int32)), iv (p4 &&& (255 : Int32))] [(.int (p2 &&& (255 : Int32))), (.int (0 : Int32)), (.ref b220), (.ref b220), (.ref b215), (.ref b215)])) rfl rfl (hb hby at_112)
          refine own_goW st226 ?_
          clear st226 X220 e220
          rw [own_narM p2] at W226
          have f227 : Arv Z h226 b220 k220 .char (2 : Int32) [(.int (p2 &&& (255 : Int32))), (.int (0 : Int32))] (.int (0 : Int32)) := Arv.set Ar225 q225 S225 M225 P225 G225 (by have q := fits_nar_char (p2 &&& (255 : Int32)); rw [own_narM p2] at q; exact q) W226 0 rfl (Nat.le_of_ble_eq_true rfl)
          replace N0 := Fr.snoc X226 N0 big222
          replace hJ := own_Jwr hZ hJ W226 (own_farV f224 (by decide) (ow6 hw))
          replace A215 := A215.wr W226
          replace f218 := f218.other W226 (Or.inl ne221)
          replace f219 := f219.other W226 (Or.inl ne221)
          clear f224
          replace O0 := own_oldWr O0 W226 big222
          replace K0 := K0.wr W226 (Or.inr sz223)
          replace hS := own_since hS (Nat.le_of_eq W226.size.symm)
          clear W226
          clear Ar225 q225 S225 M225 P225 G225 hin225
          show own_GoW p e below s _ _ _ _ (T226.setTop (mkF m 113 #[iv p1, iv p2, iv p3, iv p4, iv (1 : Int32), .unset, iv ((p1 >>> ((1 : Int32) &&& 31)) &&& (3 : Int32)), iv (p2 &&& (255 : Int32)), iv (p3 &&& (255 : Int32)), iv (p4 &&& (255 : Int32))] [(.ref b220), (.ref b215), (.ref b215)]))
          refine own_goW (fun _ k => XS.dup X226.here hx rfl (hb hby at_113) rfl rfl (XS.iconst X226.here hx rfl (hb hby at_114) (XS.iload X226.here hx rfl (hb hby at_115) rfl k))) ?_
          obtain ⟨cl228, Ar228, q228, S228, M228, P228, G228⟩ := id f227
          have hin228 : ¬ ((1 : Int32) < 0 ∨ cl228.slots.size ≤ ((1 : Int32)).toNatClampNeg) := inb_of S228 ⟨by decide, by decide⟩
          obtain ⟨T229, h229, X229, e229, W229, st229⟩ := stC X226 hx hZ e226 Ar228 (j := (1 : Int32)) hin228 (g := (mkF m 117 #[iv p1, iv p2, iv p3, iv p4, iv (1 : Int32), .unset, iv ((p1 >>> ((1 : Int32) &&& 31)) &&& (3 : Int32)), iv (p2 &&& (255 : Int32)), iv (p3 &&& (255 : Int32)), iv (p4 &&& (255 : Int32))] [(.int (p3 &&& (255 : Int32))), (.int (1 : Int32)), (.ref b220), (.ref b220), (.ref b215), (.ref b215)])) rfl rfl (hb hby at_117)
          refine own_goW st229 ?_
          clear st229 X226 e226
          rw [own_narM p3] at W229
          have f230 : Arv Z h229 b220 k220 .char (2 : Int32) [(.int (p2 &&& (255 : Int32))), (.int (p3 &&& (255 : Int32)))] (.int (0 : Int32)) := Arv.set Ar228 q228 S228 M228 P228 G228 (by have q := fits_nar_char (p3 &&& (255 : Int32)); rw [own_narM p3] at q; exact q) W229 1 rfl (Nat.le_of_ble_eq_true rfl)
          replace N0 := Fr.snoc X229 N0 big222
          replace hJ := own_Jwr hZ hJ W229 (own_farV f227 (by decide) (ow6 hw))
          replace A215 := A215.wr W229
          replace f218 := f218.other W229 (Or.inl ne221)
          replace f219 := f219.other W229 (Or.inl ne221)
          clear f227
          replace O0 := own_oldWr O0 W229 big222
          replace K0 := K0.wr W229 (Or.inr sz223)
          replace hS := own_since hS (Nat.le_of_eq W229.size.symm)
          clear W229
          clear Ar228 q228 S228 M228 P228 G228 hin228
          obtain ⟨v231, T231, L231, X231, hQ231, st231⟩ := own_callIB (y := own_y1) X229 hx hZ hown (ow9 hw) (ow10 hw) (ow7 hw) (ow11 hw) 1 1 2 (StrChars.Road.backV (W := 1) hZ (own_sw1 hw) (kI := 4) (ow6 hw) (cs := ([(p2 &&& (255 : Int32)), (p3 &&& (255 : Int32))] : List Int32)) (bs := ([(p2 &&& (255 : Int32)), (p3 &&& (255 : Int32))] : List Int32).map (fun c => c.toInt8.toInt32)) (n := 2) (n0 := Z.heap.size) big216 (Nat.le_trans O0.1 (Nat.le_refl _)) A215 f219 f218 f230 (oCS.ext O0) oCz rfl rfl (by decide) (by decide) (own_cC (own_c8m p2) (own_cC (own_c8m p3) own_cN)) rfl (by decide) (by decide)) rfl (by show _ ≤ 40; omega) (by show _ ≤ 4288; omega) e229 (g := (mkF m 118 #[iv p1, iv p2, iv p3, iv p4, iv (1 : Int32), .unset, iv ((p1 >>> ((1 : Int32) &&& 31)) &&& (3 : Int32)), iv (p2 &&& (255 : Int32)), iv (p3 &&& (255 : Int32)), iv (p4 &&& (255 : Int32))] [(.ref b220), (.ref b215), (.ref b215)])) rfl (by rw [hml]; rfl) b215 [(.ref b220)] [(.ref b215)] (lenOf own_pd_39 rfl) rfl rfl (hb hby at_118)
          obtain ⟨rfl, Nc231, Kc231, f1231, f2231, t231, kb231, tb231, ts231, tn231, f3231, f4231⟩ := hQ231
          refine own_goW st231 ?_
          clear st231 X229 e229
          replace N0 := Fr.app N0 Nc231
          clear Nc231
          replace hS := own_since hS Kc231.1
          have ne232 : b215 ≠ t231 := Nat.ne_of_lt (Nat.lt_of_lt_of_le A215.lt ts231)
          have ne233 : b220 ≠ t231 := Nat.ne_of_lt (Nat.lt_of_lt_of_le f230.lt ts231)
          have big234 : Z.heap.size ≤ t231 := Nat.le_trans O0.1 ts231
          have sz235 : h0.size ≤ t231 := Nat.le_trans K0.1 ts231
          have hAp_b215 := own_apart hZ hJ f219
          replace hJ := own_JkeepS hZ hJ Kc231 hAp_b215 A215 (ow6 hw)
          replace A215 := A215.keep Kc231
          clear f218
          clear f219
          replace f230 := f230.keep Kc231 (ninS ne221.symm nin0)
          replace O0 := own_oldKeep O0 Kc231 (allS big216 all0)
          replace K0 := K0.trans Kc231 (allS (Or.inr sz217) all0)
          clear Kc231
          replace f4231 : Arv Z T231.heap t231 kb231 .byte (2 : Int32) [(.int ((p2 &&& (255 : Int32)).toInt8.toInt32)), (.int ((p3 &&& (255 : Int32)).toInt8.toInt32))] (.int (0 : Int32)) := f4231
          refine own_goW (fun _ k => XS.astore X231.here hx rfl (hb hby at_121) rfl rfl (l' := #[iv p1, iv p2, iv p3, iv p4, iv (1 : Int32), rv b215, iv ((p1 >>> ((1 : Int32) &&& 31)) &&& (3 : Int32)), iv (p2 &&& (255 : Int32)), iv (p3 &&& (255 : Int32)), iv (p4 &&& (255 : Int32))]) rfl (XS.goto X231.here hx rfl (pc0 := 123) (pc' := 153) rfl (hb hby at_123) (by decide) (by decide) (XS.goto X231.here hx rfl (pc0 := 153) (pc' := 335) rfl (hb hby at_153) (by decide) (by decide) k))) ?_
          show own_GoW p e below s _ _ _ _ (T231.setTop (mkF m 335 #[iv p1, iv p2, iv p3, iv p4, iv (1 : Int32), rv b215, iv ((p1 >>> ((1 : Int32) &&& 31)) &&& (3 : Int32)), iv (p2 &&& (255 : Int32)), iv (p3 &&& (255 : Int32)), iv (p4 &&& (255 : Int32))] []))
          exact sg_s335s hw hO p1 p2 p3 p4 b215 ((p1 >>> ((1 : Int32) &&& 31)) &&& (3 : Int32)) (p2 &&& (255 : Int32)) (p3 &&& (255 : Int32)) (p4 &&& (255 : Int32)) h0 T231.heap X231 hS hL hJ hx hby hml hret hlk hZ hown hnm (rfl : T231.heap = T231.heap) N0 O0 K0 f1231 (by omega) (by omega)
        · refine own_goW (fun _ k => XS.icmpYes X0.here hx rfl (pc0 := 98) (pc' := 126) rfl (hb hby at_98) rfl (feq hc214).2 (by decide) (by decide) k) ?_
          show own_GoW p e below s _ _ _ _ (T.setTop (mkF m 126 #[iv p1, iv p2, iv p3, iv p4, iv (1 : Int32), .unset, iv ((p1 >>> ((1 : Int32) &&& 31)) &&& (3 : Int32)), iv (p2 &&& (255 : Int32)), iv (p3 &&& (255 : Int32)), iv (p4 &&& (255 : Int32))] []))
          obtain ⟨T236, h236, X236, e236, E236, A236, D236, -, st236⟩ := newO X0 hx hZ hown (ow5 hw) (ow6 hw) (ow7 hw) e0 (g := (mkF m 126 #[iv p1, iv p2, iv p3, iv p4, iv (1 : Int32), .unset, iv ((p1 >>> ((1 : Int32) &&& 31)) &&& (3 : Int32)), iv (p2 &&& (255 : Int32)), iv (p3 &&& (255 : Int32)), iv (p4 &&& (255 : Int32))] [])) rfl (hb hby at_126) (by show _ ≤ 40; omega) (by show _ ≤ 4288; omega)
          obtain ⟨b236, g236⟩ : ∃ z, z = h0.size := ⟨_, rfl⟩
          rw [← g236] at A236 D236 st236
          refine own_goW st236 ?_
          clear st236 X0 e0
          have ge236 := Nat.le_of_eq g236.symm
          have big237 : Z.heap.size ≤ b236 := Nat.le_trans O0.1 ge236
          have sz238 : h0.size ≤ b236 := Nat.le_trans K0.1 ge236
          replace O0 := own_oldExt O0 E236
          replace K0 := K0.ext E236
          replace hS := own_since hS E236.1
          replace hJ := own_Jext hJ E236
          clear E236
          have f239 : Fld Z h236 b236 "java/lang/String" "coder" "B" (.int (0 : Int32)) := D236 (Or.inr (ow32 hw)) (ty := .byte) own_fd1
          have f240 : Fld Z h236 b236 "java/lang/String" "value" "[B" .null := D236 (Or.inr (ow34 hw)) (ty := (.array .byte)) own_fd0
          refine own_goW (fun _ k => XS.dup X236.here hx rfl (hb hby at_129) rfl rfl (XS.iconst X236.here hx rfl (hb hby at_130) k)) ?_
          obtain ⟨T241, h241, k241, X241, e241, E241, A241, st241⟩ := newP (aty := .char) X236 hx hZ (ow8 hw) e236 (g := (mkF m 131 #[iv p1, iv p2, iv p3, iv p4, iv (1 : Int32), .unset, iv ((p1 >>> ((1 : Int32) &&& 31)) &&& (3 : Int32)), iv (p2 &&& (255 : Int32)), iv (p3 &&& (255 : Int32)), iv (p4 &&& (255 : Int32))] [(.int (3 : Int32)), (.ref b236), (.ref b236)])) rfl (hb hby at_131) rfl (by decide) (cap := 3) (by decide) (by decide) (by show _ ≤ 40; omega) (by show _ ≤ 4288; omega)
          obtain ⟨b241, g241⟩ : ∃ z, z = h236.size := ⟨_, rfl⟩
          rw [← g241] at A241 st241
          refine own_goW st241 ?_
          clear st241 X236 e236
          have ge241 := Nat.le_of_eq g241.symm
          have ne242 : b236 ≠ b241 := Nat.ne_of_lt (Nat.lt_of_lt_of_le A236.lt ge241)
          have big243 : Z.heap.size ≤ b241 := Nat.le_trans O0.1 ge241
          have sz244 : h0.size ≤ b241 := Nat.le_trans K0.1 ge241
          replace A236 := A236.ext E241
          replace f239 := f239.ext E241
          replace f240 := f240.ext E241
          replace O0 := own_oldExt O0 E241
          replace K0 := K0.ext E241
          replace hS := own_since hS E241.1
          replace hJ := own_Jext hJ E241
          clear E241
          have f245 : Arv Z h241 b241 k241 .char (3 : Int32) [(.int (0 : Int32)), (.int (0 : Int32)), (.int (0 : Int32))] (.int (0 : Int32)) := (Arv.new A241 (by decide)).pad (pad_rep [] (.int (0 : Int32)) 3)
          refine own_goW (fun _ k => XS.dup X241.here hx rfl (hb hby at_133) rfl rfl (XS.iconst X241.here hx rfl (hb hby at_134) (XS.iload X241.here hx rfl (hb hby at_135) rfl k))) ?_
          obtain ⟨cl246, Ar246, q246, S246, M246, P246, G246⟩ := id f245
          have hin246 : ¬ ((0 : Int32) < 0 ∨ cl246.slots.size ≤ ((0 : Int32)).toNatClampNeg) := inb_of S246 ⟨by decide, by decide⟩
          obtain ⟨T247, h247, X247, e247, W247, st247⟩ := stC X241 hx hZ e241 Ar246 (j := (0 : Int32)) hin246 (g := (mkF m 137 #[iv p1, iv p2, iv p3, iv p4, iv (1 : Int32), .unset, iv ((p1 >>> ((1 : Int32) &&& 31)) &&& (3 : Int32)), iv (p2 &&& (255 : Int32)), iv (p3 &&& (255 : Int32)), iv (p4 &&& (255 : Int32))] [(.int (p2 &&& (255 : Int32))), (.int (0 : Int32)), (.ref b241), (.ref b241), (.ref b236), (.ref b236)])) rfl rfl (hb hby at_137)
          refine own_goW st247 ?_
          clear st247 X241 e241
          rw [own_narM p2] at W247
          have f248 : Arv Z h247 b241 k241 .char (3 : Int32) [(.int (p2 &&& (255 : Int32))), (.int (0 : Int32)), (.int (0 : Int32))] (.int (0 : Int32)) := Arv.set Ar246 q246 S246 M246 P246 G246 (by have q := fits_nar_char (p2 &&& (255 : Int32)); rw [own_narM p2] at q; exact q) W247 0 rfl (Nat.le_of_ble_eq_true rfl)
          replace N0 := Fr.snoc X247 N0 big243
          replace hJ := own_Jwr hZ hJ W247 (own_farV f245 (by decide) (ow6 hw))
          replace A236 := A236.wr W247
          replace f239 := f239.other W247 (Or.inl ne242)
          replace f240 := f240.other W247 (Or.inl ne242)
          clear f245
          replace O0 := own_oldWr O0 W247 big243
          replace K0 := K0.wr W247 (Or.inr sz244)
          replace hS := own_since hS (Nat.le_of_eq W247.size.symm)
          clear W247
          clear Ar246 q246 S246 M246 P246 G246 hin246
          show own_GoW p e below s _ _ _ _ (T247.setTop (mkF m 138 #[iv p1, iv p2, iv p3, iv p4, iv (1 : Int32), .unset, iv ((p1 >>> ((1 : Int32) &&& 31)) &&& (3 : Int32)), iv (p2 &&& (255 : Int32)), iv (p3 &&& (255 : Int32)), iv (p4 &&& (255 : Int32))] [(.ref b241), (.ref b236), (.ref b236)]))
          refine own_goW (fun _ k => XS.dup X247.here hx rfl (hb hby at_138) rfl rfl (XS.iconst X247.here hx rfl (hb hby at_139) (XS.iload X247.here hx rfl (hb hby at_140) rfl k))) ?_
          obtain ⟨cl249, Ar249, q249, S249, M249, P249, G249⟩ := id f248
          have hin249 : ¬ ((1 : Int32) < 0 ∨ cl249.slots.size ≤ ((1 : Int32)).toNatClampNeg) := inb_of S249 ⟨by decide, by decide⟩
          obtain ⟨T250, h250, X250, e250, W250, st250⟩ := stC X247 hx hZ e247 Ar249 (j := (1 : Int32)) hin249 (g := (mkF m 142 #[iv p1, iv p2, iv p3, iv p4, iv (1 : Int32), .unset, iv ((p1 >>> ((1 : Int32) &&& 31)) &&& (3 : Int32)), iv (p2 &&& (255 : Int32)), iv (p3 &&& (255 : Int32)), iv (p4 &&& (255 : Int32))] [(.int (p3 &&& (255 : Int32))), (.int (1 : Int32)), (.ref b241), (.ref b241), (.ref b236), (.ref b236)])) rfl rfl (hb hby at_142)
          refine own_goW st250 ?_
          clear st250 X247 e247
          rw [own_narM p3] at W250
          have f251 : Arv Z h250 b241 k241 .char (3 : Int32) [(.int (p2 &&& (255 : Int32))), (.int (p3 &&& (255 : Int32))), (.int (0 : Int32))] (.int (0 : Int32)) := Arv.set Ar249 q249 S249 M249 P249 G249 (by have q := fits_nar_char (p3 &&& (255 : Int32)); rw [own_narM p3] at q; exact q) W250 1 rfl (Nat.le_of_ble_eq_true rfl)
          replace N0 := Fr.snoc X250 N0 big243
          replace hJ := own_Jwr hZ hJ W250 (own_farV f248 (by decide) (ow6 hw))
          replace A236 := A236.wr W250
          replace f239 := f239.other W250 (Or.inl ne242)
          replace f240 := f240.other W250 (Or.inl ne242)
          clear f248
          replace O0 := own_oldWr O0 W250 big243
          replace K0 := K0.wr W250 (Or.inr sz244)
          replace hS := own_since hS (Nat.le_of_eq W250.size.symm)
          clear W250
          clear Ar249 q249 S249 M249 P249 G249 hin249
          refine own_goW (fun _ k => XS.dup X250.here hx rfl (hb hby at_143) rfl rfl (XS.iconst X250.here hx rfl (hb hby at_144) (XS.iload X250.here hx rfl (hb hby at_145) rfl k))) ?_
          obtain ⟨cl252, Ar252, q252, S252, M252, P252, G252⟩ := id f251
          have hin252 : ¬ ((2 : Int32) < 0 ∨ cl252.slots.size ≤ ((2 : Int32)).toNatClampNeg) := inb_of S252 ⟨by decide, by decide⟩
          obtain ⟨T253, h253, X253, e253, W253, st253⟩ := stC X250 hx hZ e250 Ar252 (j := (2 : Int32)) hin252 (g := (mkF m 147 #[iv p1, iv p2, iv p3, iv p4, iv (1 : Int32), .unset, iv ((p1 >>> ((1 : Int32) &&& 31)) &&& (3 : Int32)), iv (p2 &&& (255 : Int32)), iv (p3 &&& (255 : Int32)), iv (p4 &&& (255 : Int32))] [(.int (p4 &&& (255 : Int32))), (.int (2 : Int32)), (.ref b241), (.ref b241), (.ref b236), (.ref b236)])) rfl rfl (hb hby at_147)
          refine own_goW st253 ?_
          clear st253 X250 e250
          rw [own_narM p4] at W253
          have f254 : Arv Z h253 b241 k241 .char (3 : Int32) [(.int (p2 &&& (255 : Int32))), (.int (p3 &&& (255 : Int32))), (.int (p4 &&& (255 : Int32)))] (.int (0 : Int32)) := Arv.set Ar252 q252 S252 M252 P252 G252 (by have q := fits_nar_char (p4 &&& (255 : Int32)); rw [own_narM p4] at q; exact q) W253 2 rfl (Nat.le_of_ble_eq_true rfl)
          replace N0 := Fr.snoc X253 N0 big243
          replace hJ := own_Jwr hZ hJ W253 (own_farV f251 (by decide) (ow6 hw))
          replace A236 := A236.wr W253
          replace f239 := f239.other W253 (Or.inl ne242)
          replace f240 := f240.other W253 (Or.inl ne242)
          clear f251
          replace O0 := own_oldWr O0 W253 big243
          replace K0 := K0.wr W253 (Or.inr sz244)
          replace hS := own_since hS (Nat.le_of_eq W253.size.symm)
          clear W253
          clear Ar252 q252 S252 M252 P252 G252 hin252
          show own_GoW p e below s _ _ _ _ (T253.setTop (mkF m 148 #[iv p1, iv p2, iv p3, iv p4, iv (1 : Int32), .unset, iv ((p1 >>> ((1 : Int32) &&& 31)) &&& (3 : Int32)), iv (p2 &&& (255 : Int32)), iv (p3 &&& (255 : Int32)), iv (p4 &&& (255 : Int32))] [(.ref b241), (.ref b236), (.ref b236)]))
          obtain ⟨v255, T255, L255, X255, hQ255, st255⟩ := own_callIB (y := own_y1) X253 hx hZ hown (ow9 hw) (ow10 hw) (ow7 hw) (ow11 hw) 1 1 3 (StrChars.Road.backV (W := 1) hZ (own_sw1 hw) (kI := 4) (ow6 hw) (cs := ([(p2 &&& (255 : Int32)), (p3 &&& (255 : Int32)), (p4 &&& (255 : Int32))] : List Int32)) (bs := ([(p2 &&& (255 : Int32)), (p3 &&& (255 : Int32)), (p4 &&& (255 : Int32))] : List Int32).map (fun c => c.toInt8.toInt32)) (n := 3) (n0 := Z.heap.size) big237 (Nat.le_trans O0.1 (Nat.le_refl _)) A236 f240 f239 f254 (oCS.ext O0) oCz rfl rfl (by decide) (by decide) (own_cC (own_c8m p2) (own_cC (own_c8m p3) (own_cC (own_c8m p4) own_cN))) rfl (by decide) (by decide)) rfl (by show _ ≤ 40; omega) (by show _ ≤ 4288; omega) e253 (g := (mkF m 148 #[iv p1, iv p2, iv p3, iv p4, iv (1 : Int32), .unset, iv ((p1 >>> ((1 : Int32) &&& 31)) &&& (3 : Int32)), iv (p2 &&& (255 : Int32)), iv (p3 &&& (255 : Int32)), iv (p4 &&& (255 : Int32))] [(.ref b241), (.ref b236), (.ref b236)])) rfl (by rw [hml]; rfl) b236 [(.ref b241)] [(.ref b236)] (lenOf own_pd_39 rfl) rfl rfl (hb hby at_148)
          obtain ⟨rfl, Nc255, Kc255, f1255, f2255, t255, kb255, tb255, ts255, tn255, f3255, f4255⟩ := hQ255
          refine own_goW st255 ?_
          clear st255 X253 e253
          replace N0 := Fr.app N0 Nc255
          clear Nc255
          replace hS := own_since hS Kc255.1
          have ne256 : b236 ≠ t255 := Nat.ne_of_lt (Nat.lt_of_lt_of_le A236.lt ts255)
          have ne257 : b241 ≠ t255 := Nat.ne_of_lt (Nat.lt_of_lt_of_le f254.lt ts255)
          have big258 : Z.heap.size ≤ t255 := Nat.le_trans O0.1 ts255
          have sz259 : h0.size ≤ t255 := Nat.le_trans K0.1 ts255
          have hAp_b236 := own_apart hZ hJ f240
          replace hJ := own_JkeepS hZ hJ Kc255 hAp_b236 A236 (ow6 hw)
          replace A236 := A236.keep Kc255
          clear f239
          clear f240
          replace f254 := f254.keep Kc255 (ninS ne242.symm nin0)
          replace O0 := own_oldKeep O0 Kc255 (allS big237 all0)
          replace K0 := K0.trans Kc255 (allS (Or.inr sz238) all0)
          clear Kc255
          replace f4255 : Arv Z T255.heap t255 kb255 .byte (3 : Int32) [(.int ((p2 &&& (255 : Int32)).toInt8.toInt32)), (.int ((p3 &&& (255 : Int32)).toInt8.toInt32)), (.int ((p4 &&& (255 : Int32)).toInt8.toInt32))] (.int (0 : Int32)) := f4255
          refine own_goW (fun _ k => XS.astore X255.here hx rfl (hb hby at_151) rfl rfl (l' := #[iv p1, iv p2, iv p3, iv p4, iv (1 : Int32), rv b236, iv ((p1 >>> ((1 : Int32) &&& 31)) &&& (3 : Int32)), iv (p2 &&& (255 : Int32)), iv (p3 &&& (255 : Int32)), iv (p4 &&& (255 : Int32))]) rfl (XS.goto X255.here hx rfl (pc0 := 153) (pc' := 335) rfl (hb hby at_153) (by decide) (by decide) k)) ?_
          show own_GoW p e below s _ _ _ _ (T255.setTop (mkF m 335 #[iv p1, iv p2, iv p3, iv p4, iv (1 : Int32), rv b236, iv ((p1 >>> ((1 : Int32) &&& 31)) &&& (3 : Int32)), iv (p2 &&& (255 : Int32)), iv (p3 &&& (255 : Int32)), iv (p4 &&& (255 : Int32))] []))
          exact sg_s335s hw hO p1 p2 p3 p4 b236 ((p1 >>> ((1 : Int32) &&& 31)) &&& (3 : Int32)) (p2 &&& (255 : Int32)) (p3 &&& (255 : Int32)) (p4 &&& (255 : Int32)) h0 T255.heap X255 hS hL hJ hx hby hml hret hlk hZ hown hnm (rfl : T255.heap = T255.heap) N0 O0 K0 f1255 (by omega) (by omega)
set_option maxRecDepth 65536 in
set_option maxHeartbeats 40000000 in
theorem comes_1 {Post : Tables → Env → Array Value → State → Outcome → State → Prop} (hpost : ∀ tb e args s v u, (limb_1_1.after args s (.returned v) u = true ∧ limb_1_2.after args s (.returned v) u = true ∧ True) → ReturnedEndW s (.returned v) u (Jvm.fieldLocs frame_1_writes args s ++ Jvm.arrayLocs frame_1_arrays args s ++ Jvm.staticLocs frame_1_statics s) 40 4288 → Post tb e args s (.returned v) u) :
    ArmFor flags0 classFile x code maxLocals ret World_1 tables_1 room_1 Calls_1 rest_1 Pre_1 Post := by
  intro l hfl _ _ p e ha hc hk s m args below hf hA hF happ hP
  obtain ⟨hcalls, hrest, hpre⟩ := hP
  obtain ⟨-, -, -, hnamed, -, -, -, hat⟩ := (Spec.applies_iff hf).mp happ
  obtain ⟨hg, hn⟩ := and_e (Cond.before_iff.mp (show (Jvm.Cond.and given_1 narrow_1).before args s = true from hpre))
  obtain ⟨gA0, gB0⟩ := and_e hg
  obtain ⟨gA1, gB1⟩ := and_e gB0
  obtain ⟨gA2, gB2⟩ := and_e gB1
  obtain ⟨gA3, gB3⟩ := and_e gB2
  obtain ⟨w0, w1, w2, w3, rfl⟩ : ∃ w0 w1 w2 w3 : Value, args = #[w0, w1, w2, w3] := by
    have hs : args.size = 4 := by simpa [Cond.value, given_1] using gA0
    obtain ⟨L⟩ := args
    match L, hs with
    | [w0, w1, w2, w3], _ => exact ⟨w0, w1, w2, w3, rfl⟩
  have hw := fun d (hd : d ∈ tables_1) => atoms_spec (ws := Jvm.Cond.code x code maxLocals ret :: tables_1) hat d (List.mem_cons_of_mem _ hd)
  have hfit : Fit s := fun {y c} hc i hi => by
    obtain ⟨ha, rfl⟩ := Array.getElem?_eq_some_iff.mp hc
    have q := List.all_eq_true.mp ((Array.all_eq_true_iff_forall_mem.mp hF) _ (Array.getElem_mem ha)) i (List.mem_range.mpr hi)
    simpa [Array.getElem?_eq_getElem hi] using q
  obtain ⟨hsets, hown0⟩ := atoms_of _ (rest_1_c_eq ▸ (show rest_1_c.before _ s = true from hrest))
  have hr0 := Cond.before_iff.mp hown0
  obtain ⟨i0, ei0⟩ := is_v gA1
  obtain rfl : w0 = (.int i0) := Option.some.inj ei0
  obtain ⟨i1, ei1⟩ := is_v gA2
  obtain rfl : w1 = (.int i1) := Option.some.inj ei1
  obtain ⟨i2, ei2⟩ := is_v gA3
  obtain rfl : w2 = (.int i2) := Option.some.inj ei2
  obtain ⟨i3, ei3⟩ := is_v gB3
  obtain rfl : w3 = (.int i3) := Option.some.inj ei3
  obtain ⟨zc, cse⟩ := is_v (Cond.before_iff.mp (hsets _ (List.mem_of_getElem? (i := 1) rfl)))
  have oCS := Sta.start cse (Or.inl (hsets _ (List.mem_of_getElem? (i := 0) rfl)))
  have csn := Cond.before_iff.mp (hsets _ (List.mem_of_getElem? (i := 2) rfl))
  have oCz : ¬ zc = (0 : Int32) := gotF (Cond.eq_ints cse (Term.int_eval 0)) (by have q := not_v csn; simpa using q)
  obtain ⟨wsf, sfe, r_wsf⟩ := isR_v (Cond.before_iff.mp (hsets _ (List.mem_of_getElem? (i := 8) rfl)))
  have oSF := Sta.start sfe (Or.inl (hsets _ (List.mem_of_getElem? (i := 7) rfl)))
  have hJst : own_J s s.vm s.heap := own_Jstart hw (hsets _ (List.mem_of_getElem? (i := 2) rfl)) hcalls
  have hO : own_Olds s _ _ := ⟨oCS, oCz, oSF, r_wsf⟩
  obtain ⟨n, o, h1, h2, h3, _, L, rfl, ⟨⟨rfl, N, -⟩, -⟩, hq⟩ := rm_law l s _ hw hO tables_1 i0 i1 i2 i3  s.heap ⟨Nat.le_refl _, fun _ _ q => q⟩  p e ha hc hk s m _ below hf ((Spec.applies_iff_loose hf).mp happ).1 ⟨rfl, State.Warmed39.refl s, rfl, hJst⟩ trivial
  refine ⟨n, _, h1, h2, h3, hpost _ _ _ _ _ _ ⟨Cond.after_iff.mpr rfl, Cond.after_iff.mpr (eq_i res_at (Term.int_eval (1)) rfl), trivial⟩ ⟨hq.1, hq.2.1, hq.2.2.1, (hq.2.2.2.sift fun y hy => Or.inr (N y hy)).mono (by decide) (by decide)⟩⟩
theorem main_1_1 : Claimed_1_1 := comes_1 fun _ _ _ _ _ _ h hF => ⟨h.1, hF⟩
theorem main_1_2 : Claimed_1_2 := comes_1 fun _ _ _ _ _ _ h hF => ⟨h.2.1, hF⟩
end Jvm.Pilot.@@N@@
namespace Jvm.Pilot.@@N@@
open Jvm Jvm.ClassFile Sem Op Lib Jvm.Free Jvm.Stand Jvm.Pilot.@@N@@.Jvm.D
/-! MADE BY PROGRAM (witnessworld.py) out of the Statement's table words and the real class files: 30 classes; the members and pool entries that the words name. The judged class is class 1, her method 2. -/
namespace start1
open Jvm.ClassFile
def u (s : String) : CpInfo := .utf8 (stringToUtf16 s)
/-- a pool by its gaps: so many unusable entries, then the entry; so many at the end -/
def gap : Nat → List CpInfo → List CpInfo
  | 0, r => r
  | n + 1, r => .unusable :: gap n r
def poolList (es : List (Nat × CpInfo)) (last : Nat) : List CpInfo := es.foldr (fun e r => gap e.1 (e.2 :: r)) (gap last [])
def pool (es : List (Nat × CpInfo)) (last : Nat) : Array CpInfo := ⟨poolList es last⟩
def fileOf (pool : Array CpInfo) (this : Nat) (attrs : Array Attribute := #[]) (ms : Array MethodInfo := #[]) (fl : Nat := 33) (sup : Nat := 0) (ifs : Array Nat := #[]) (fds : Array FieldInfo := #[]) : ClassFile where
  minorVersion := 0
  majorVersion := 65
  constantPool := pool
  accessFlags := fl
  thisClass := this
  superClass := sup
  interfaces := ifs
  fields := fds
  methods := ms
  attributes := attrs
def plain (name : String) (sup : Option ClassId) : Class where
  name := name
  kind := .ordinary
  loader := none
  accessFlags := 33
  super := sup
  interfaces := #[]
  cf := none
  fields := #[]
  methods := #[]
  instanceTypes := #[]
  staticTypes := #[]
  resolved := #[]
  callSites := []
  init := .initialized
  statics := none
  mirror := none

def pool0 : Array CpInfo := pool [(5, u "<init>"), (0, u "()V"), (1, .class_ 10), (1, u "java/lang/Object")] 113

def k0c0 : Code := { maxStack := 0, maxLocals := 1, code := object_method_1_code, exceptionTable := #[], attributes := #[] }
def k0m0 : Method := { name := "<init>", desc := "()V", sig := { parameters := [], returnType := none }, accessFlags := 1, code := some k0c0 }
/-- java/lang/Object -/
def k0 : Class := { plain "java/lang/Object" none with
  accessFlags := 33
  interfaces := #[]
  cf := some (fileOf pool0 8 #[] #[{ accessFlags := 1, nameIndex := 5, descriptorIndex := 6, attributes := #[] }] 33 0 #[] #[])
  fields := #[]
  methods := #[k0m0]
  instanceTypes := #[]
  staticTypes := #[]
  resolved := Array.replicate 124 none
  statics := none }

def pool1 : Array CpInfo := pool [(2, .class_ 4), (0, .nameAndType 5 6), (0, u "java/lang/Object"), (0, u "<init>"), (0, u "()V"), (0, .integer 2147483647), (0, .class_ 9), (0, u "java/lang/String"), (0, .methodref 8 11), (0, .nameAndType 5 12), (0, u "([C)V"), (0, .methodref 14 15), (0, .class_ 16), (0, .nameAndType 17 18), (0, u "com/example/ibex/ibex/model/ApproximateNumbersHoldsPinLaw"), (0, u "digit"), (0, u "(I)C"), (0, .class_ 20), (0, u "com/example/ibex/ibex/model/Constant"), (0, .methodref 19 22), (0, .nameAndType 5 23), (0, u "(ZLjava/lang/String;)V"), (0, .class_ 25), (0, u "com/example/ibex/ibex/model/ColumnType$ApproximateNumbers"), (0, .methodref 24 3), (0, .methodref 24 28), (0, .nameAndType 29 30), (0, u "holds"), (0, u "(Lcom/example/ibex/ibex/model/Constant;)Z"), (2, u "law"), (0, u "(IIII)Z")] 7

def k1m0 : Method := { name := "<init>", desc := "()V", sig := { parameters := [], returnType := none }, accessFlags := 1, code := none }
def k1c1 : Code := { maxStack := 3, maxLocals := 1, code := method_2_code, exceptionTable := #[], attributes := #[] }
def k1m1 : Method := { name := "digit", desc := "(I)C", sig := { parameters := [.int], returnType := some .char }, accessFlags := 10, code := some k1c1 }
def k1c2 : Code := { maxStack := 6, maxLocals := 10, code := code, exceptionTable := #[], attributes := #[] }
def k1m2 : Method := { name := "law", desc := "(IIII)Z", sig := { parameters := [.int, .int, .int, .int], returnType := some .boolean }, accessFlags := 9, code := some k1c2 }
/-- com/example/ibex/ibex/model/ApproximateNumbersHoldsPinLaw -/
def k1 : Class := { plain "com/example/ibex/ibex/model/ApproximateNumbersHoldsPinLaw" (some 0) with
  accessFlags := 49
  interfaces := #[]
  cf := some (fileOf pool1 14 #[] #[{ accessFlags := 1, nameIndex := 5, descriptorIndex := 6, attributes := #[] }, { accessFlags := 10, nameIndex := 17, descriptorIndex := 18, attributes := #[] }, { accessFlags := 9, nameIndex := 33, descriptorIndex := 34, attributes := #[] }] 49 2 #[] #[])
  fields := #[]
  methods := #[k1m0, k1m1, k1m2]
  instanceTypes := #[]
  staticTypes := #[]
  resolved := Array.replicate 42 none
  statics := none }

def pool2 : Array CpInfo := pool [(1, .class_ 2), (0, u "java/io/Serializable"), (0, .class_ 4), (0, u "java/lang/Object")] 2

/-- java/io/Serializable -/
def k2 : Class := { plain "java/io/Serializable" (some 0) with
  accessFlags := 1537
  interfaces := #[]
  cf := some (fileOf pool2 1 #[] #[] 1537 3 #[] #[])
  fields := #[]
  methods := #[]
  instanceTypes := #[]
  staticTypes := #[]
  resolved := Array.replicate 7 none
  statics := none }

def pool3 : Array CpInfo := pool [(1, .class_ 2), (0, u "java/lang/Comparable"), (0, .class_ 4), (0, u "java/lang/Object")] 7

/-- java/lang/Comparable -/
def k3 : Class := { plain "java/lang/Comparable" (some 0) with
  accessFlags := 1537
  interfaces := #[]
  cf := some (fileOf pool3 1 #[] #[] 1537 3 #[] #[])
  fields := #[]
  methods := #[]
  instanceTypes := #[]
  staticTypes := #[]
  resolved := Array.replicate 12 none
  statics := none }

def pool4 : Array CpInfo := pool [(2, .class_ 4), (1, u "java/lang/CharSequence"), (42, .class_ 48), (0, u "java/lang/CharSequence$1CodePointIterator"), (10, .class_ 60), (0, u "java/lang/CharSequence$1CharIterator"), (5, .class_ 67), (0, u "java/lang/Object")] 63

/-- java/lang/CharSequence -/
def k4 : Class := { plain "java/lang/CharSequence" (some 0) with
  accessFlags := 1537
  interfaces := #[]
  cf := some (fileOf pool4 2 #[.nestMembers #[47, 59]] #[] 1537 66 #[] #[])
  fields := #[]
  methods := #[]
  instanceTypes := #[]
  staticTypes := #[]
  resolved := Array.replicate 131 none
  statics := none }

def pool5 : Array CpInfo := pool [(1, .class_ 2), (0, u "java/lang/constant/Constable"), (0, .class_ 4), (0, u "java/lang/Object")] 6

/-- java/lang/constant/Constable -/
def k5 : Class := { plain "java/lang/constant/Constable" (some 0) with
  accessFlags := 1537
  interfaces := #[]
  cf := some (fileOf pool5 1 #[] #[] 1537 3 #[] #[])
  fields := #[]
  methods := #[]
  instanceTypes := #[]
  staticTypes := #[]
  resolved := Array.replicate 11 none
  statics := none }

def pool6 : Array CpInfo := pool [(1, .class_ 2), (0, u "java/lang/constant/ConstantDesc"), (0, .class_ 4), (0, u "java/lang/Object")] 32

/-- java/lang/constant/ConstantDesc -/
def k6 : Class := { plain "java/lang/constant/ConstantDesc" (some 0) with
  accessFlags := 1537
  interfaces := #[]
  cf := some (fileOf pool6 1 #[] #[] 1537 3 #[] #[])
  fields := #[]
  methods := #[]
  instanceTypes := #[]
  staticTypes := #[]
  resolved := Array.replicate 37 none
  statics := none }

def pool7 : Array CpInfo := pool [(1, .methodref 2 3), (0, .class_ 4), (0, .nameAndType 5 6), (0, u "java/lang/Object"), (0, u "<init>"), (0, u "()V"), (0, .string 8), (0, u ""), (0, .fieldref 10 11), (0, .class_ 12), (0, .nameAndType 13 14), (0, u "java/lang/String"), (0, u "value"), (0, u "[B"), (0, .fieldref 10 16), (0, .nameAndType 17 18), (0, u "coder"), (0, u "B"), (2, u "hash"), (0, u "I"), (2, u "hashIsZero"), (0, u "Z"), (0, .methodref 10 28), (0, .nameAndType 5 29), (0, u "([CIILjava/lang/Void;)V"), (8, .fieldref 10 39), (0, .nameAndType 40 26), (0, u "COMPACT_STRINGS"), (1, .class_ 44), (1, u "java/lang/StringUTF16"), (0, u "compress"), (1, .methodref 42 48), (0, .nameAndType 49 50), (0, u "coderFromArrayLen"), (0, u "([BI)B"), (3, .methodref 55 56), (0, .class_ 57), (0, .nameAndType 58 59), (0, u "java/util/Arrays"), (0, u "copyOfRange"), (0, u "([BII)[B"), (47, .class_ 109), (1, u "java/lang/StringLatin1"), (32, u "()Z"), (34, .methodref 42 178), (0, .nameAndType 45 179), (0, u "([CII)[B"), (13, .class_ 195), (1, u "java/lang/System"), (15, u "([BB)V"), (0, .methodref 193 213), (0, .nameAndType 214 215), (0, u "arraycopy"), (0, u "(Ljava/lang/Object;ILjava/lang/Object;II)V"), (118, u "()I"), (0, .methodref 10 336), (0, .nameAndType 17 337), (0, u "()B"), (2, u "()[B"), (22, u "([BI)C"), (12, u "([BI[BII)I"), (14, u "(II)V"), (35, u "(I)C"), (61, .methodref 10 490), (0, .nameAndType 5 491), (0, u "(Ljava/lang/AbstractStringBuilder;Ljava/lang/Void;)V"), (0, .methodref 10 493), (0, .nameAndType 494 142), (0, u "isLatin1"), (0, .methodref 107 496), (0, .nameAndType 497 363), (0, u "charAt"), (3, u "checkIndex"), (3, .methodref 10 506), (0, .nameAndType 507 334), (0, u "length"), (5, u "checkFromToIndex"), (7, .methodref 10 522), (0, .nameAndType 523 524), (0, u "checkBoundsBeginEnd"), (0, u "(III)V"), (7, u "getBytes"), (8, .methodref 107 542), (0, .nameAndType 543 544), (0, u "equals"), (0, u "([B[B)Z"), (4, .methodref 550 506), (0, .class_ 551), (0, u "java/lang/AbstractStringBuilder"), (0, .methodref 550 553), (0, .nameAndType 554 340), (0, u "getValue"), (4, .class_ 561), (1, u "jdk/internal/util/ArraysSupport"), (0, u "mismatch"), (10, u "(Ljava/lang/Object;)Z"), (1, .class_ 576), (0, u "java/lang/CharSequence"), (22, u "CASE_INSENSITIVE_ORDER"), (0, u "Ljava/util/Comparator;"), (6, .methodref 559 608), (0, .nameAndType 562 376), (15, .methodref 10 625), (0, .nameAndType 626 627), (0, u "startsWith"), (0, u "(Ljava/lang/String;I)Z"), (5, .methodref 10 634), (0, .nameAndType 635 636), (0, u "indexOf"), (0, u "(II)I"), (0, .methodref 107 638), (0, .nameAndType 635 639), (0, u "([BIII)I"), (43, u "substring"), (0, u "(II)Ljava/lang/String;"), (0, .methodref 107 686), (0, .nameAndType 687 688), (0, u "newString"), (0, u "([BII)Ljava/lang/String;"), (76, u "(I)I"), (55, u "([BIB)V"), (188, u "([C)V"), (36, .methodref 550 493), (5, .fieldref 1054 1055), (0, .class_ 1056), (0, .nameAndType 1057 1058), (0, u "jdk/internal/util/Preconditions"), (0, u "SIOOBE_FORMATTER"), (0, u "Ljava/util/function/BiFunction;"), (0, .methodref 1054 1060), (0, .nameAndType 501 1061), (0, u "(IILjava/util/function/BiFunction;)I"), (0, .methodref 1054 1063), (0, .nameAndType 513 1064), (0, u "(IIILjava/util/function/BiFunction;)I"), (36, u "serialPersistentFields"), (0, u "[Ljava/io/ObjectStreamField;"), (0, .class_ 1104), (0, u "java/lang/String$CaseInsensitiveComparator"), (1, .class_ 1107), (0, u "java/io/Serializable"), (0, .class_ 1109), (0, u "java/lang/Comparable"), (0, .class_ 1111), (0, u "java/lang/constant/Constable"), (0, .class_ 1113), (0, u "java/lang/constant/ConstantDesc"), (2, u "serialVersionUID"), (0, u "J"), (3, u "REPL"), (0, u "C"), (2, u "LATIN1"), (1, u "UTF16"), (105, u "(Ljava/lang/StringBuilder;)V"), (23, u "(Ljava/lang/String;)Z")] 193

def k7m0 : Method := { name := "<init>", desc := "()V", sig := { parameters := [], returnType := none }, accessFlags := 1, code := none }
def k7c1 : Code := { maxStack := 5, maxLocals := 2, code := jdk_42_method_3_code, exceptionTable := #[], attributes := #[] }
def k7m1 : Method := { name := "<init>", desc := "([C)V", sig := { parameters := [(.array .char)], returnType := none }, accessFlags := 1, code := some k7c1 }
def k7c2 : Code := { maxStack := 3, maxLocals := 2, code := jdk_42_method_53_code, exceptionTable := #[], attributes := #[] }
def k7m2 : Method := { name := "<init>", desc := "(Ljava/lang/StringBuilder;)V", sig := { parameters := [(.object "java/lang/StringBuilder")], returnType := none }, accessFlags := 1, code := some k7c2 }
def k7c3 : Code := { maxStack := 2, maxLocals := 1, code := jdk_42_method_54_code, exceptionTable := #[], attributes := #[] }
def k7m3 : Method := { name := "length", desc := "()I", sig := { parameters := [], returnType := some .int }, accessFlags := 1, code := some k7c3 }
def k7c4 : Code := { maxStack := 2, maxLocals := 2, code := jdk_42_method_56_code, exceptionTable := #[], attributes := #[] }
def k7m4 : Method := { name := "charAt", desc := "(I)C", sig := { parameters := [.int], returnType := some .char }, accessFlags := 1, code := some k7c4 }
def k7c5 : Code := { maxStack := 2, maxLocals := 3, code := jdk_42_method_66_code, exceptionTable := #[], attributes := #[] }
def k7m5 : Method := { name := "equals", desc := "(Ljava/lang/Object;)Z", sig := { parameters := [(.object "java/lang/Object")], returnType := some .boolean }, accessFlags := 1, code := some k7c5 }
def k7c6 : Code := { maxStack := 5, maxLocals := 8, code := jdk_42_method_75_code, exceptionTable := #[], attributes := #[] }
def k7m6 : Method := { name := "startsWith", desc := "(Ljava/lang/String;I)Z", sig := { parameters := [(.object "java/lang/String"), .int], returnType := some .boolean }, accessFlags := 1, code := some k7c6 }
def k7c7 : Code := { maxStack := 3, maxLocals := 2, code := jdk_42_method_76_code, exceptionTable := #[], attributes := #[] }
def k7m7 : Method := { name := "startsWith", desc := "(Ljava/lang/String;)Z", sig := { parameters := [(.object "java/lang/String")], returnType := some .boolean }, accessFlags := 1, code := some k7c7 }
def k7c8 : Code := { maxStack := 3, maxLocals := 2, code := jdk_42_method_79_code, exceptionTable := #[], attributes := #[] }
def k7m8 : Method := { name := "indexOf", desc := "(I)I", sig := { parameters := [.int], returnType := some .int }, accessFlags := 1, code := some k7c8 }
def k7c9 : Code := { maxStack := 4, maxLocals := 3, code := jdk_42_method_80_code, exceptionTable := #[], attributes := #[] }
def k7m9 : Method := { name := "indexOf", desc := "(II)I", sig := { parameters := [.int, .int], returnType := some .int }, accessFlags := 1, code := some k7c9 }
def k7c10 : Code := { maxStack := 3, maxLocals := 5, code := jdk_42_method_92_code, exceptionTable := #[], attributes := #[] }
def k7m10 : Method := { name := "substring", desc := "(II)Ljava/lang/String;", sig := { parameters := [.int, .int], returnType := some (.object "java/lang/String") }, accessFlags := 1, code := some k7c10 }
def k7c11 : Code := { maxStack := 5, maxLocals := 4, code := jdk_42_method_147_code, exceptionTable := #[], attributes := #[] }
def k7m11 : Method := { name := "getBytes", desc := "([BIB)V", sig := { parameters := [(.array .byte), .int, .byte], returnType := none }, accessFlags := 0, code := some k7c11 }
def k7c12 : Code := { maxStack := 4, maxLocals := 6, code := jdk_42_method_149_code, exceptionTable := #[], attributes := #[] }
def k7m12 : Method := { name := "<init>", desc := "([CIILjava/lang/Void;)V", sig := { parameters := [(.array .char), .int, .int, (.object "java/lang/Void")], returnType := none }, accessFlags := 2, code := some k7c12 }
def k7c13 : Code := { maxStack := 5, maxLocals := 5, code := jdk_42_method_150_code, exceptionTable := #[], attributes := #[] }
def k7m13 : Method := { name := "<init>", desc := "(Ljava/lang/AbstractStringBuilder;Ljava/lang/Void;)V", sig := { parameters := [(.object "java/lang/AbstractStringBuilder"), (.object "java/lang/Void")], returnType := none }, accessFlags := 0, code := some k7c13 }
def k7c14 : Code := { maxStack := 2, maxLocals := 3, code := jdk_42_method_151_code, exceptionTable := #[], attributes := #[] }
def k7m14 : Method := { name := "<init>", desc := "([BB)V", sig := { parameters := [(.array .byte), .byte], returnType := none }, accessFlags := 0, code := some k7c14 }
def k7c15 : Code := { maxStack := 1, maxLocals := 1, code := jdk_42_method_152_code, exceptionTable := #[], attributes := #[] }
def k7m15 : Method := { name := "coder", desc := "()B", sig := { parameters := [], returnType := some .byte }, accessFlags := 0, code := some k7c15 }
def k7c16 : Code := { maxStack := 1, maxLocals := 1, code := jdk_42_method_154_code, exceptionTable := #[], attributes := #[] }
def k7m16 : Method := { name := "isLatin1", desc := "()Z", sig := { parameters := [], returnType := some .boolean }, accessFlags := 0, code := some k7c16 }
def k7c17 : Code := { maxStack := 3, maxLocals := 2, code := jdk_42_method_155_code, exceptionTable := #[], attributes := #[] }
def k7m17 : Method := { name := "checkIndex", desc := "(II)V", sig := { parameters := [.int, .int], returnType := none }, accessFlags := 8, code := some k7c17 }
def k7c18 : Code := { maxStack := 4, maxLocals := 3, code := jdk_42_method_158_code, exceptionTable := #[], attributes := #[] }
def k7m18 : Method := { name := "checkBoundsBeginEnd", desc := "(III)V", sig := { parameters := [.int, .int, .int], returnType := none }, accessFlags := 8, code := some k7c18 }
/-- java/lang/String -/
def k7 : Class := { plain "java/lang/String" (some 0) with
  accessFlags := 49
  interfaces := #[2, 3, 4, 5, 6]
  cf := some (fileOf pool7 10 #[.nestMembers #[1103]] #[{ accessFlags := 1, nameIndex := 5, descriptorIndex := 6, attributes := #[] }, { accessFlags := 1, nameIndex := 5, descriptorIndex := 1010, attributes := #[] }, { accessFlags := 1, nameIndex := 5, descriptorIndex := 1233, attributes := #[] }, { accessFlags := 1, nameIndex := 507, descriptorIndex := 334, attributes := #[] }, { accessFlags := 1, nameIndex := 497, descriptorIndex := 427, attributes := #[] }, { accessFlags := 1, nameIndex := 543, descriptorIndex := 573, attributes := #[] }, { accessFlags := 1, nameIndex := 626, descriptorIndex := 627, attributes := #[] }, { accessFlags := 1, nameIndex := 626, descriptorIndex := 1257, attributes := #[] }, { accessFlags := 1, nameIndex := 635, descriptorIndex := 765, attributes := #[] }, { accessFlags := 1, nameIndex := 635, descriptorIndex := 636, attributes := #[] }, { accessFlags := 1, nameIndex := 683, descriptorIndex := 684, attributes := #[] }, { accessFlags := 0, nameIndex := 532, descriptorIndex := 821, attributes := #[] }, { accessFlags := 2, nameIndex := 5, descriptorIndex := 29, attributes := #[] }, { accessFlags := 0, nameIndex := 5, descriptorIndex := 491, attributes := #[] }, { accessFlags := 0, nameIndex := 5, descriptorIndex := 211, attributes := #[] }, { accessFlags := 0, nameIndex := 17, descriptorIndex := 337, attributes := #[] }, { accessFlags := 0, nameIndex := 494, descriptorIndex := 142, attributes := #[] }, { accessFlags := 8, nameIndex := 501, descriptorIndex := 391, attributes := #[] }, { accessFlags := 8, nameIndex := 523, descriptorIndex := 524, attributes := #[] }] 49 2 #[1106, 1108, 575, 1110, 1112] #[{ accessFlags := 18, nameIndex := 13, descriptorIndex := 14, attributes := #[] }, { accessFlags := 18, nameIndex := 17, descriptorIndex := 18, attributes := #[] }, { accessFlags := 2, nameIndex := 21, descriptorIndex := 22, attributes := #[] }, { accessFlags := 2, nameIndex := 25, descriptorIndex := 26, attributes := #[] }, { accessFlags := 26, nameIndex := 1116, descriptorIndex := 1117, attributes := #[] }, { accessFlags := 24, nameIndex := 40, descriptorIndex := 26, attributes := #[] }, { accessFlags := 26, nameIndex := 1101, descriptorIndex := 1102, attributes := #[] }, { accessFlags := 26, nameIndex := 1121, descriptorIndex := 1122, attributes := #[] }, { accessFlags := 25, nameIndex := 599, descriptorIndex := 600, attributes := #[] }, { accessFlags := 24, nameIndex := 1125, descriptorIndex := 18, attributes := #[] }, { accessFlags := 24, nameIndex := 1127, descriptorIndex := 18, attributes := #[] }])
  fields := #[{ name := "value", type := (.array .byte), accessFlags := 18, slot := 0, constantValue := 0 }, { name := "coder", type := .byte, accessFlags := 18, slot := 1, constantValue := 0 }, { name := "hash", type := .int, accessFlags := 2, slot := 2, constantValue := 0 }, { name := "hashIsZero", type := .boolean, accessFlags := 2, slot := 3, constantValue := 0 }, { name := "serialVersionUID", type := .long, accessFlags := 26, slot := 0, constantValue := 0 }, { name := "COMPACT_STRINGS", type := .boolean, accessFlags := 24, slot := 1, constantValue := 0 }, { name := "serialPersistentFields", type := (.array (.object "java/io/ObjectStreamField")), accessFlags := 26, slot := 2, constantValue := 0 }, { name := "REPL", type := .char, accessFlags := 26, slot := 3, constantValue := 0 }, { name := "CASE_INSENSITIVE_ORDER", type := (.object "java/util/Comparator"), accessFlags := 25, slot := 4, constantValue := 0 }, { name := "LATIN1", type := .byte, accessFlags := 24, slot := 5, constantValue := 0 }, { name := "UTF16", type := .byte, accessFlags := 24, slot := 6, constantValue := 0 }]
  methods := #[k7m0, k7m1, k7m2, k7m3, k7m4, k7m5, k7m6, k7m7, k7m8, k7m9, k7m10, k7m11, k7m12, k7m13, k7m14, k7m15, k7m16, k7m17, k7m18]
  instanceTypes := #[(.array .byte), .byte, .int, .boolean]
  staticTypes := #[.long, .boolean, (.array (.object "java/io/ObjectStreamField")), .char, (.object "java/util/Comparator"), .byte, .byte]
  resolved := Array.replicate 1451 none
  statics := some 0 }

def pool8 : Array CpInfo := pool [(6, .class_ 8), (1, u "java/lang/Object"), (0, u "<init>"), (0, u "()V"), (1, .class_ 14), (1, u "java/lang/StringUTF16"), (31, u "$assertionsDisabled"), (0, u "Z"), (13, u "HI_BYTE_SHIFT"), (0, u "I"), (2, u "LO_BYTE_SHIFT"), (49, .methodref 12 116), (0, .nameAndType 117 118), (0, u "compress"), (0, u "([CI[BII)I"), (3, u "([CII)[B"), (138, u "coderFromArrayLen"), (0, u "([BI)B"), (106, .class_ 371), (1, u "java/lang/StringUTF16$LinesSpliterator"), (58, u "MAX_LENGTH"), (196, .class_ 628), (0, u "java/lang/StringUTF16$CodePointsSpliterator"), (0, .class_ 630), (0, u "java/lang/StringUTF16$CharsSpliterator")] 4

def k8m0 : Method := { name := "<init>", desc := "()V", sig := { parameters := [], returnType := none }, accessFlags := 0, code := none }
def k8c1 : Code := { maxStack := 2, maxLocals := 2, code := jdk_52_method_15_code, exceptionTable := #[], attributes := #[] }
def k8m1 : Method := { name := "coderFromArrayLen", desc := "([BI)B", sig := { parameters := [(.array .byte), .int], returnType := some .byte }, accessFlags := 8, code := some k8c1 }
def k8c2 : Code := { maxStack := 5, maxLocals := 6, code := jdk_52_method_16_code, exceptionTable := #[], attributes := #[] }
def k8m2 : Method := { name := "compress", desc := "([CII)[B", sig := { parameters := [(.array .char), .int, .int], returnType := some (.array .byte) }, accessFlags := 9, code := some k8c2 }
def k8c3 : Code := { maxStack := 3, maxLocals := 7, code := jdk_52_method_21_code, exceptionTable := #[], attributes := #[] }
def k8m3 : Method := { name := "compress", desc := "([CI[BII)I", sig := { parameters := [(.array .char), .int, (.array .byte), .int, .int], returnType := some .int }, accessFlags := 9, code := some k8c3 }
/-- java/lang/StringUTF16 -/
def k8 : Class := { plain "java/lang/StringUTF16" (some 0) with
  accessFlags := 48
  interfaces := #[]
  cf := some (fileOf pool8 12 #[.nestMembers #[627, 629, 369]] #[{ accessFlags := 0, nameIndex := 9, descriptorIndex := 10, attributes := #[] }, { accessFlags := 8, nameIndex := 261, descriptorIndex := 262, attributes := #[] }, { accessFlags := 9, nameIndex := 117, descriptorIndex := 122, attributes := #[] }, { accessFlags := 9, nameIndex := 117, descriptorIndex := 118, attributes := #[] }] 48 6 #[] #[{ accessFlags := 26, nameIndex := 61, descriptorIndex := 62, attributes := #[] }, { accessFlags := 26, nameIndex := 65, descriptorIndex := 62, attributes := #[] }, { accessFlags := 24, nameIndex := 430, descriptorIndex := 62, attributes := #[] }, { accessFlags := 4120, nameIndex := 46, descriptorIndex := 47, attributes := #[] }])
  fields := #[{ name := "HI_BYTE_SHIFT", type := .int, accessFlags := 26, slot := 0, constantValue := 0 }, { name := "LO_BYTE_SHIFT", type := .int, accessFlags := 26, slot := 1, constantValue := 0 }, { name := "MAX_LENGTH", type := .int, accessFlags := 24, slot := 2, constantValue := 0 }, { name := "$assertionsDisabled", type := .boolean, accessFlags := 4120, slot := 3, constantValue := 0 }]
  methods := #[k8m0, k8m1, k8m2, k8m3]
  instanceTypes := #[]
  staticTypes := #[.int, .int, .int, .boolean]
  resolved := Array.replicate 635 none
  statics := none }

def pool9 : Array CpInfo := pool [(1, .methodref 2 3), (0, .class_ 4), (0, .nameAndType 5 6), (0, u "java/lang/Object"), (0, u "<init>"), (0, u "()V"), (0, .class_ 8), (0, u "java/lang/Record")] 13

def k9c0 : Code := { maxStack := 1, maxLocals := 1, code := jdk_30_method_1_code, exceptionTable := #[], attributes := #[] }
def k9m0 : Method := { name := "<init>", desc := "()V", sig := { parameters := [], returnType := none }, accessFlags := 4, code := some k9c0 }
/-- java/lang/Record -/
def k9 : Class := { plain "java/lang/Record" (some 0) with
  accessFlags := 1057
  interfaces := #[]
  cf := some (fileOf pool9 7 #[] #[{ accessFlags := 4, nameIndex := 5, descriptorIndex := 6, attributes := #[] }] 1057 2 #[] #[])
  fields := #[]
  methods := #[k9m0]
  instanceTypes := #[]
  staticTypes := #[]
  resolved := Array.replicate 22 none
  statics := none }

def pool10 : Array CpInfo := pool [(1, .methodref 2 3), (0, .class_ 4), (0, .nameAndType 5 6), (0, u "java/lang/Record"), (0, u "<init>"), (0, u "()V"), (0, .string 8), (0, u "text"), (0, .methodref 10 11), (0, .class_ 12), (0, .nameAndType 13 14), (0, u "java/util/Objects"), (0, u "requireNonNull"), (0, u "(Ljava/lang/Object;Ljava/lang/String;)Ljava/lang/Object;"), (0, .methodref 16 17), (0, .class_ 18), (0, .nameAndType 19 20), (0, u "com/example/ibex/ibex/model/Constant"), (0, u "plainDigits"), (0, u "(Ljava/lang/String;)Ljava/lang/String;"), (0, .fieldref 16 22), (0, .nameAndType 23 24), (0, u "string"), (0, u "Z"), (0, .fieldref 16 26), (0, .nameAndType 8 27), (0, u "Ljava/lang/String;"), (5, u "()I"), (0, .string 35), (0, u "0"), (2, u "(ZLjava/lang/String;)V"), (26, u "()Ljava/lang/String;"), (25, .string 92), (0, u "-"), (0, .methodref 94 95), (0, .class_ 96), (0, .nameAndType 97 98), (0, u "java/lang/String"), (0, u "startsWith"), (0, u "(Ljava/lang/String;)Z"), (0, .methodref 94 100), (0, .nameAndType 101 102), (0, u "indexOf"), (0, u "(I)I"), (0, .methodref 94 104), (0, .nameAndType 105 33), (0, u "length"), (0, .methodref 16 107), (0, .nameAndType 108 109), (0, u "digits"), (0, u "(Ljava/lang/String;II)Z"), (5, .methodref 94 116), (0, .nameAndType 117 118), (0, u "charAt"), (0, u "(I)C"), (0, .methodref 94 120), (0, .nameAndType 121 122), (0, u "substring"), (0, u "(II)Ljava/lang/String;"), (0, .methodref 94 124), (0, .nameAndType 125 126), (0, u "equals"), (0, u "(Ljava/lang/Object;)Z"), (0, .class_ 128), (0, u "java/lang/StringBuilder"), (0, .methodref 127 3), (0, .methodref 127 131), (0, .nameAndType 132 133), (0, u "append"), (0, u "(Ljava/lang/String;)Ljava/lang/StringBuilder;"), (0, .methodref 127 135), (0, .nameAndType 136 65), (0, u "toString"), (10, u "MOST_WHOLE_DIGITS"), (0, u "I"), (2, u "MOST_FRACTION_DIGITS"), (9, u "()Z")] 21

def k10c0 : Code := { maxStack := 2, maxLocals := 3, code := prog_69_method_1_code, exceptionTable := #[], attributes := #[] }
def k10m0 : Method := { name := "<init>", desc := "(ZLjava/lang/String;)V", sig := { parameters := [.boolean, (.object "java/lang/String")], returnType := none }, accessFlags := 1, code := some k10c0 }
def k10c1 : Code := { maxStack := 3, maxLocals := 8, code := prog_69_method_5_code, exceptionTable := #[], attributes := #[] }
def k10m1 : Method := { name := "plainDigits", desc := "(Ljava/lang/String;)Ljava/lang/String;", sig := { parameters := [(.object "java/lang/String")], returnType := some (.object "java/lang/String") }, accessFlags := 10, code := some k10c1 }
def k10c2 : Code := { maxStack := 2, maxLocals := 5, code := prog_69_method_6_code, exceptionTable := #[], attributes := #[] }
def k10m2 : Method := { name := "digits", desc := "(Ljava/lang/String;II)Z", sig := { parameters := [(.object "java/lang/String"), .int, .int], returnType := some .boolean }, accessFlags := 10, code := some k10c2 }
def k10c3 : Code := { maxStack := 1, maxLocals := 1, code := prog_69_method_10_code, exceptionTable := #[], attributes := #[] }
def k10m3 : Method := { name := "string", desc := "()Z", sig := { parameters := [], returnType := some .boolean }, accessFlags := 1, code := some k10c3 }
/-- com/example/ibex/ibex/model/Constant -/
def k10 : Class := { plain "com/example/ibex/ibex/model/Constant" (some 9) with
  accessFlags := 49
  interfaces := #[]
  cf := some (fileOf pool10 16 #[] #[{ accessFlags := 1, nameIndex := 5, descriptorIndex := 38, attributes := #[] }, { accessFlags := 10, nameIndex := 19, descriptorIndex := 20, attributes := #[] }, { accessFlags := 10, nameIndex := 108, descriptorIndex := 109, attributes := #[] }, { accessFlags := 1, nameIndex := 23, descriptorIndex := 161, attributes := #[] }] 49 2 #[] #[{ accessFlags := 18, nameIndex := 23, descriptorIndex := 24, attributes := #[] }, { accessFlags := 18, nameIndex := 8, descriptorIndex := 27, attributes := #[] }, { accessFlags := 26, nameIndex := 147, descriptorIndex := 148, attributes := #[] }, { accessFlags := 26, nameIndex := 151, descriptorIndex := 148, attributes := #[] }])
  fields := #[{ name := "string", type := .boolean, accessFlags := 18, slot := 0, constantValue := 0 }, { name := "text", type := (.object "java/lang/String"), accessFlags := 18, slot := 1, constantValue := 0 }, { name := "MOST_WHOLE_DIGITS", type := .int, accessFlags := 26, slot := 0, constantValue := 0 }, { name := "MOST_FRACTION_DIGITS", type := .int, accessFlags := 26, slot := 1, constantValue := 0 }]
  methods := #[k10m0, k10m1, k10m2, k10m3]
  instanceTypes := #[.boolean, (.object "java/lang/String")]
  staticTypes := #[.int, .int]
  resolved := Array.replicate 183 none
  statics := none }

def pool11 : Array CpInfo := pool [(2, .class_ 4), (1, u "java/lang/Object"), (0, u "<init>"), (0, u "()V"), (35, .class_ 44), (1, u "java/util/Objects"), (0, u "requireNonNull"), (48, u "(Ljava/lang/Object;Ljava/lang/String;)Ljava/lang/Object;")] 89

def k11m0 : Method := { name := "<init>", desc := "()V", sig := { parameters := [], returnType := none }, accessFlags := 2, code := none }
def k11c1 : Code := { maxStack := 3, maxLocals := 2, code := jdk_31_method_11_code, exceptionTable := #[], attributes := #[] }
def k11m1 : Method := { name := "requireNonNull", desc := "(Ljava/lang/Object;Ljava/lang/String;)Ljava/lang/Object;", sig := { parameters := [(.object "java/lang/Object"), (.object "java/lang/String")], returnType := some (.object "java/lang/Object") }, accessFlags := 9, code := some k11c1 }
/-- java/util/Objects -/
def k11 : Class := { plain "java/util/Objects" (some 0) with
  accessFlags := 49
  interfaces := #[]
  cf := some (fileOf pool11 42 #[] #[{ accessFlags := 2, nameIndex := 5, descriptorIndex := 6, attributes := #[] }, { accessFlags := 9, nameIndex := 45, descriptorIndex := 94, attributes := #[] }] 49 2 #[] #[])
  fields := #[]
  methods := #[k11m0, k11m1]
  instanceTypes := #[]
  staticTypes := #[]
  resolved := Array.replicate 184 none
  statics := none }

def pool12 : Array CpInfo := pool [(9, u "<init>"), (6, .class_ 18), (1, u "java/lang/Object"), (0, u "()V"), (1, .class_ 23), (1, u "jdk/internal/util/ArraysSupport"), (0, u "LOG2_ARRAY_LONG_INDEX_SCALE"), (0, u "I"), (2, u "U"), (0, u "Ljdk/internal/misc/Unsafe;"), (8, u "BIG_ENDIAN"), (0, u "Z"), (8, u "LOG2_BYTE_BIT_SIZE"), (4, u "LOG2_ARRAY_INT_INDEX_SCALE"), (54, u "JLA"), (0, u "Ljdk/internal/access/JavaLangAccess;"), (11, u "LOG2_ARRAY_BOOLEAN_INDEX_SCALE"), (9, u "LOG2_ARRAY_BYTE_INDEX_SCALE"), (5, u "LOG2_ARRAY_CHAR_INDEX_SCALE"), (5, u "LOG2_ARRAY_SHORT_INDEX_SCALE"), (5, u "mismatch"), (12, u "LOG2_ARRAY_FLOAT_INDEX_SCALE"), (24, u "LOG2_ARRAY_DOUBLE_INDEX_SCALE"), (89, u "T_BOOLEAN"), (2, u "T_CHAR"), (1, u "T_FLOAT"), (1, u "T_DOUBLE"), (1, u "T_BYTE"), (1, u "T_SHORT"), (1, u "T_INT"), (1, u "T_LONG"), (1, u "SOFT_MAX_ARRAY_LENGTH"), (42, u "([BI[BII)I")] 40

def k12m0 : Method := { name := "<init>", desc := "()V", sig := { parameters := [], returnType := none }, accessFlags := 2, code := none }
def k12c1 : Code := { maxStack := 8, maxLocals := 8, code := jdk_48_method_14_code, exceptionTable := #[], attributes := #[] }
def k12m1 : Method := { name := "mismatch", desc := "([BI[BII)I", sig := { parameters := [(.array .byte), .int, (.array .byte), .int, .int], returnType := some .int }, accessFlags := 9, code := some k12c1 }
/-- jdk/internal/util/ArraysSupport -/
def k12 : Class := { plain "jdk/internal/util/ArraysSupport" (some 0) with
  accessFlags := 33
  interfaces := #[]
  cf := some (fileOf pool12 21 #[] #[{ accessFlags := 2, nameIndex := 9, descriptorIndex := 19, attributes := #[] }, { accessFlags := 9, nameIndex := 149, descriptorIndex := 337, attributes := #[] }] 33 16 #[] #[{ accessFlags := 24, nameIndex := 28, descriptorIndex := 29, attributes := #[] }, { accessFlags := 26, nameIndex := 38, descriptorIndex := 39, attributes := #[] }, { accessFlags := 25, nameIndex := 121, descriptorIndex := 25, attributes := #[] }, { accessFlags := 25, nameIndex := 131, descriptorIndex := 25, attributes := #[] }, { accessFlags := 25, nameIndex := 137, descriptorIndex := 25, attributes := #[] }, { accessFlags := 25, nameIndex := 143, descriptorIndex := 25, attributes := #[] }, { accessFlags := 25, nameIndex := 53, descriptorIndex := 25, attributes := #[] }, { accessFlags := 25, nameIndex := 24, descriptorIndex := 25, attributes := #[] }, { accessFlags := 25, nameIndex := 162, descriptorIndex := 25, attributes := #[] }, { accessFlags := 25, nameIndex := 187, descriptorIndex := 25, attributes := #[] }, { accessFlags := 26, nameIndex := 48, descriptorIndex := 25, attributes := #[] }, { accessFlags := 25, nameIndex := 277, descriptorIndex := 25, attributes := #[] }, { accessFlags := 25, nameIndex := 280, descriptorIndex := 25, attributes := #[] }, { accessFlags := 25, nameIndex := 282, descriptorIndex := 25, attributes := #[] }, { accessFlags := 25, nameIndex := 284, descriptorIndex := 25, attributes := #[] }, { accessFlags := 25, nameIndex := 286, descriptorIndex := 25, attributes := #[] }, { accessFlags := 25, nameIndex := 288, descriptorIndex := 25, attributes := #[] }, { accessFlags := 25, nameIndex := 290, descriptorIndex := 25, attributes := #[] }, { accessFlags := 25, nameIndex := 292, descriptorIndex := 25, attributes := #[] }, { accessFlags := 26, nameIndex := 108, descriptorIndex := 109, attributes := #[] }, { accessFlags := 25, nameIndex := 294, descriptorIndex := 25, attributes := #[] }])
  fields := #[{ name := "U", type := (.object "jdk/internal/misc/Unsafe"), accessFlags := 24, slot := 0, constantValue := 0 }, { name := "BIG_ENDIAN", type := .boolean, accessFlags := 26, slot := 1, constantValue := 0 }, { name := "LOG2_ARRAY_BOOLEAN_INDEX_SCALE", type := .int, accessFlags := 25, slot := 2, constantValue := 0 }, { name := "LOG2_ARRAY_BYTE_INDEX_SCALE", type := .int, accessFlags := 25, slot := 3, constantValue := 0 }, { name := "LOG2_ARRAY_CHAR_INDEX_SCALE", type := .int, accessFlags := 25, slot := 4, constantValue := 0 }, { name := "LOG2_ARRAY_SHORT_INDEX_SCALE", type := .int, accessFlags := 25, slot := 5, constantValue := 0 }, { name := "LOG2_ARRAY_INT_INDEX_SCALE", type := .int, accessFlags := 25, slot := 6, constantValue := 0 }, { name := "LOG2_ARRAY_LONG_INDEX_SCALE", type := .int, accessFlags := 25, slot := 7, constantValue := 0 }, { name := "LOG2_ARRAY_FLOAT_INDEX_SCALE", type := .int, accessFlags := 25, slot := 8, constantValue := 0 }, { name := "LOG2_ARRAY_DOUBLE_INDEX_SCALE", type := .int, accessFlags := 25, slot := 9, constantValue := 0 }, { name := "LOG2_BYTE_BIT_SIZE", type := .int, accessFlags := 26, slot := 10, constantValue := 0 }, { name := "T_BOOLEAN", type := .int, accessFlags := 25, slot := 11, constantValue := 0 }, { name := "T_CHAR", type := .int, accessFlags := 25, slot := 12, constantValue := 0 }, { name := "T_FLOAT", type := .int, accessFlags := 25, slot := 13, constantValue := 0 }, { name := "T_DOUBLE", type := .int, accessFlags := 25, slot := 14, constantValue := 0 }, { name := "T_BYTE", type := .int, accessFlags := 25, slot := 15, constantValue := 0 }, { name := "T_SHORT", type := .int, accessFlags := 25, slot := 16, constantValue := 0 }, { name := "T_INT", type := .int, accessFlags := 25, slot := 17, constantValue := 0 }, { name := "T_LONG", type := .int, accessFlags := 25, slot := 18, constantValue := 0 }, { name := "JLA", type := (.object "jdk/internal/access/JavaLangAccess"), accessFlags := 26, slot := 19, constantValue := 0 }, { name := "SOFT_MAX_ARRAY_LENGTH", type := .int, accessFlags := 25, slot := 20, constantValue := 0 }]
  methods := #[k12m0, k12m1]
  instanceTypes := #[]
  staticTypes := #[(.object "jdk/internal/misc/Unsafe"), .boolean, .int, .int, .int, .int, .int, .int, .int, .int, .int, .int, .int, .int, .int, .int, .int, .int, .int, (.object "jdk/internal/access/JavaLangAccess"), .int]
  resolved := Array.replicate 378 none
  statics := none }

def pool13 : Array CpInfo := pool [(1, .class_ 2), (0, u "java/lang/String"), (1, .class_ 6), (1, u "java/lang/Object"), (0, u "<init>"), (0, u "()V"), (0, .methodref 1 10), (0, .nameAndType 11 12), (0, u "checkIndex"), (0, u "(II)V"), (1, .class_ 16), (1, u "java/lang/StringLatin1"), (21, .methodref 39 40), (0, .class_ 41), (0, .nameAndType 42 43), (0, u "java/lang/Math"), (0, u "min"), (0, u "(II)I"), (9, u "([BI)C"), (34, .methodref 14 89), (0, .nameAndType 90 91), (0, u "canEncode"), (0, u "(I)Z"), (0, .methodref 39 93), (0, .nameAndType 94 43), (0, u "max"), (0, .methodref 14 96), (0, .nameAndType 97 98), (0, u "indexOfChar"), (0, u "([BIII)I"), (2, u "indexOf"), (10, .methodref 1 113), (0, .nameAndType 7 114), (0, u "([BB)V"), (6, u "$assertionsDisabled"), (0, u "Z"), (8, .class_ 133), (1, u "java/util/Arrays"), (62, u "newString"), (0, u "([BII)Ljava/lang/String;"), (23, .class_ 223), (1, u "java/lang/StringLatin1$LinesSpliterator"), (8, .methodref 131 233), (0, .nameAndType 234 235), (0, u "copyOfRange"), (0, u "([BII)[B"), (16, u "charAt"), (28, u "equals"), (0, u "([B[B)Z"), (107, .class_ 391), (0, u "java/lang/StringLatin1$CharsSpliterator")] 3

def k13m0 : Method := { name := "<init>", desc := "()V", sig := { parameters := [], returnType := none }, accessFlags := 0, code := none }
def k13c1 : Code := { maxStack := 2, maxLocals := 2, code := jdk_43_method_2_code, exceptionTable := #[], attributes := #[] }
def k13m1 : Method := { name := "charAt", desc := "([BI)C", sig := { parameters := [(.array .byte), .int], returnType := some .char }, accessFlags := 9, code := some k13c1 }
def k13c2 : Code := { maxStack := 2, maxLocals := 1, code := jdk_43_method_4_code, exceptionTable := #[], attributes := #[] }
def k13m2 : Method := { name := "canEncode", desc := "(I)Z", sig := { parameters := [.int], returnType := some .boolean }, accessFlags := 9, code := some k13c2 }
def k13c3 : Code := { maxStack := 3, maxLocals := 3, code := jdk_43_method_13_code, exceptionTable := #[], attributes := #[] }
def k13m3 : Method := { name := "equals", desc := "([B[B)Z", sig := { parameters := [(.array .byte), (.array .byte)], returnType := some .boolean }, accessFlags := 9, code := some k13c3 }
def k13c4 : Code := { maxStack := 4, maxLocals := 4, code := jdk_43_method_22_code, exceptionTable := #[], attributes := #[] }
def k13m4 : Method := { name := "indexOf", desc := "([BIII)I", sig := { parameters := [(.array .byte), .int, .int, .int], returnType := some .int }, accessFlags := 9, code := some k13c4 }
def k13c5 : Code := { maxStack := 2, maxLocals := 6, code := jdk_43_method_23_code, exceptionTable := #[], attributes := #[] }
def k13m5 : Method := { name := "indexOfChar", desc := "([BIII)I", sig := { parameters := [(.array .byte), .int, .int, .int], returnType := some .int }, accessFlags := 10, code := some k13c5 }
def k13c6 : Code := { maxStack := 6, maxLocals := 3, code := jdk_43_method_47_code, exceptionTable := #[], attributes := #[] }
def k13m6 : Method := { name := "newString", desc := "([BII)Ljava/lang/String;", sig := { parameters := [(.array .byte), .int, .int], returnType := some (.object "java/lang/String") }, accessFlags := 9, code := some k13c6 }
/-- java/lang/StringLatin1 -/
def k13 : Class := { plain "java/lang/StringLatin1" (some 0) with
  accessFlags := 48
  interfaces := #[]
  cf := some (fileOf pool13 14 #[.nestMembers #[390, 221]] #[{ accessFlags := 0, nameIndex := 7, descriptorIndex := 8, attributes := #[] }, { accessFlags := 9, nameIndex := 252, descriptorIndex := 53, attributes := #[] }, { accessFlags := 9, nameIndex := 90, descriptorIndex := 91, attributes := #[] }, { accessFlags := 9, nameIndex := 281, descriptorIndex := 282, attributes := #[] }, { accessFlags := 9, nameIndex := 101, descriptorIndex := 98, attributes := #[] }, { accessFlags := 10, nameIndex := 97, descriptorIndex := 98, attributes := #[] }, { accessFlags := 9, nameIndex := 196, descriptorIndex := 197, attributes := #[] }] 48 4 #[] #[{ accessFlags := 4120, nameIndex := 121, descriptorIndex := 122, attributes := #[] }])
  fields := #[{ name := "$assertionsDisabled", type := .boolean, accessFlags := 4120, slot := 0, constantValue := 0 }]
  methods := #[k13m0, k13m1, k13m2, k13m3, k13m4, k13m5, k13m6]
  instanceTypes := #[]
  staticTypes := #[.boolean]
  resolved := Array.replicate 395 none
  statics := none }

def pool14 : Array CpInfo := pool [(1, .class_ 2), (0, u "java/lang/Math"), (1, .class_ 6), (1, u "java/lang/Object"), (0, u "<init>"), (0, u "()V"), (89, .class_ 100), (1, u "java/lang/Math$RandomNumberGeneratorHolder"), (71, u "negativeZeroFloatBits"), (0, u "J"), (2, u "negativeZeroDoubleBits"), (21, u "max"), (2, u "min"), (43, u "$assertionsDisabled"), (0, u "Z"), (88, u "(II)I"), (2, u "twoToTheDoubleScaleDown"), (0, u "D"), (4, u "twoToTheDoubleScaleUp"), (9, u "E"), (3, u "PI"), (2, u "TAU"), (2, u "DEGREES_TO_RADIANS"), (0, u "RADIANS_TO_DEGREES")] 94

def k14m0 : Method := { name := "<init>", desc := "()V", sig := { parameters := [], returnType := none }, accessFlags := 2, code := none }
def k14c1 : Code := { maxStack := 2, maxLocals := 2, code := jdk_29_method_65_code, exceptionTable := #[], attributes := #[] }
def k14m1 : Method := { name := "max", desc := "(II)I", sig := { parameters := [.int, .int], returnType := some .int }, accessFlags := 9, code := some k14c1 }
def k14c2 : Code := { maxStack := 2, maxLocals := 2, code := jdk_29_method_69_code, exceptionTable := #[], attributes := #[] }
def k14m2 : Method := { name := "min", desc := "(II)I", sig := { parameters := [.int, .int], returnType := some .int }, accessFlags := 9, code := some k14c2 }
/-- java/lang/Math -/
def k14 : Class := { plain "java/lang/Math" (some 0) with
  accessFlags := 49
  interfaces := #[]
  cf := some (fileOf pool14 1 #[.nestMembers #[98]] #[{ accessFlags := 2, nameIndex := 7, descriptorIndex := 8, attributes := #[] }, { accessFlags := 9, nameIndex := 198, descriptorIndex := 335, attributes := #[] }, { accessFlags := 9, nameIndex := 201, descriptorIndex := 335, attributes := #[] }] 49 4 #[] #[{ accessFlags := 25, nameIndex := 354, descriptorIndex := 339, attributes := #[] }, { accessFlags := 25, nameIndex := 358, descriptorIndex := 339, attributes := #[] }, { accessFlags := 25, nameIndex := 361, descriptorIndex := 339, attributes := #[] }, { accessFlags := 26, nameIndex := 364, descriptorIndex := 339, attributes := #[] }, { accessFlags := 26, nameIndex := 365, descriptorIndex := 339, attributes := #[] }, { accessFlags := 26, nameIndex := 172, descriptorIndex := 173, attributes := #[] }, { accessFlags := 26, nameIndex := 176, descriptorIndex := 173, attributes := #[] }, { accessFlags := 8, nameIndex := 344, descriptorIndex := 339, attributes := #[] }, { accessFlags := 8, nameIndex := 338, descriptorIndex := 339, attributes := #[] }, { accessFlags := 4120, nameIndex := 245, descriptorIndex := 246, attributes := #[] }])
  fields := #[{ name := "E", type := .double, accessFlags := 25, slot := 0, constantValue := 0 }, { name := "PI", type := .double, accessFlags := 25, slot := 1, constantValue := 0 }, { name := "TAU", type := .double, accessFlags := 25, slot := 2, constantValue := 0 }, { name := "DEGREES_TO_RADIANS", type := .double, accessFlags := 26, slot := 3, constantValue := 0 }, { name := "RADIANS_TO_DEGREES", type := .double, accessFlags := 26, slot := 4, constantValue := 0 }, { name := "negativeZeroFloatBits", type := .long, accessFlags := 26, slot := 5, constantValue := 0 }, { name := "negativeZeroDoubleBits", type := .long, accessFlags := 26, slot := 6, constantValue := 0 }, { name := "twoToTheDoubleScaleUp", type := .double, accessFlags := 8, slot := 7, constantValue := 0 }, { name := "twoToTheDoubleScaleDown", type := .double, accessFlags := 8, slot := 8, constantValue := 0 }, { name := "$assertionsDisabled", type := .boolean, accessFlags := 4120, slot := 9, constantValue := 0 }]
  methods := #[k14m0, k14m1, k14m2]
  instanceTypes := #[]
  staticTypes := #[.double, .double, .double, .double, .double, .long, .long, .double, .double, .boolean]
  resolved := Array.replicate 460 none
  statics := none }

def pool15 : Array CpInfo := pool [(2, .class_ 4), (1, u "java/lang/Object"), (0, u "<init>"), (0, u "()V"), (17, .class_ 26), (1, u "jdk/internal/util/Preconditions"), (6, u "checkIndex"), (13, u "checkFromToIndex"), (7, .class_ 56), (0, u "jdk/internal/util/Preconditions$4"), (57, .class_ 115), (0, u "jdk/internal/util/Preconditions$1"), (7, u "SIOOBE_FORMATTER"), (0, u "Ljava/util/function/BiFunction;"), (0, .class_ 126), (0, u "jdk/internal/util/Preconditions$2"), (3, u "AIOOBE_FORMATTER"), (0, .class_ 132), (0, u "jdk/internal/util/Preconditions$3"), (3, u "IOOBE_FORMATTER"), (41, u "(IILjava/util/function/BiFunction;)I"), (4, u "(IIILjava/util/function/BiFunction;)I")] 10

def k15m0 : Method := { name := "<init>", desc := "()V", sig := { parameters := [], returnType := none }, accessFlags := 1, code := none }
def k15c1 : Code := { maxStack := 3, maxLocals := 3, code := jdk_41_method_11_code, exceptionTable := #[], attributes := #[] }
def k15m1 : Method := { name := "checkIndex", desc := "(IILjava/util/function/BiFunction;)I", sig := { parameters := [.int, .int, (.object "java/util/function/BiFunction")], returnType := some .int }, accessFlags := 9, code := some k15c1 }
def k15c2 : Code := { maxStack := 4, maxLocals := 4, code := jdk_41_method_12_code, exceptionTable := #[], attributes := #[] }
def k15m2 : Method := { name := "checkFromToIndex", desc := "(IIILjava/util/function/BiFunction;)I", sig := { parameters := [.int, .int, .int, (.object "java/util/function/BiFunction")], returnType := some .int }, accessFlags := 9, code := some k15c2 }
/-- jdk/internal/util/Preconditions -/
def k15 : Class := { plain "jdk/internal/util/Preconditions" (some 0) with
  accessFlags := 33
  interfaces := #[]
  cf := some (fileOf pool15 24 #[.nestMembers #[55, 131, 125, 114]] #[{ accessFlags := 1, nameIndex := 5, descriptorIndex := 6, attributes := #[] }, { accessFlags := 9, nameIndex := 33, descriptorIndex := 178, attributes := #[] }, { accessFlags := 9, nameIndex := 47, descriptorIndex := 183, attributes := #[] }] 33 2 #[] #[{ accessFlags := 25, nameIndex := 123, descriptorIndex := 124, attributes := #[] }, { accessFlags := 25, nameIndex := 130, descriptorIndex := 124, attributes := #[] }, { accessFlags := 25, nameIndex := 136, descriptorIndex := 124, attributes := #[] }])
  fields := #[{ name := "SIOOBE_FORMATTER", type := (.object "java/util/function/BiFunction"), accessFlags := 25, slot := 0, constantValue := 0 }, { name := "AIOOBE_FORMATTER", type := (.object "java/util/function/BiFunction"), accessFlags := 25, slot := 1, constantValue := 0 }, { name := "IOOBE_FORMATTER", type := (.object "java/util/function/BiFunction"), accessFlags := 25, slot := 2, constantValue := 0 }]
  methods := #[k15m0, k15m1, k15m2]
  instanceTypes := #[]
  staticTypes := #[(.object "java/util/function/BiFunction"), (.object "java/util/function/BiFunction"), (.object "java/util/function/BiFunction")]
  resolved := Array.replicate 194 none
  statics := some 1 }

def pool16 : Array CpInfo := pool [(25, .class_ 26), (0, u "com/example/ibex/ibex/model/ColumnType$Characters"), (8, .class_ 37), (1, u "com/example/ibex/ibex/model/ColumnType"), (6, .class_ 45), (0, u "com/example/ibex/ibex/model/ColumnType$ApproximateNumbers"), (11, .class_ 58), (0, u "com/example/ibex/ibex/model/ColumnType$ExactNumbers"), (34, .class_ 94), (0, u "java/lang/Object")] 17

/-- com/example/ibex/ibex/model/ColumnType -/
def k16 : Class := { plain "com/example/ibex/ibex/model/ColumnType" (some 0) with
  accessFlags := 1537
  interfaces := #[]
  cf := some (fileOf pool16 35 #[.nestMembers #[44, 57, 25]] #[] 1537 93 #[] #[])
  fields := #[]
  methods := #[]
  instanceTypes := #[]
  staticTypes := #[]
  resolved := Array.replicate 112 none
  statics := none }

def pool17 : Array CpInfo := pool [(1, .methodref 2 3), (0, .class_ 4), (0, .nameAndType 5 6), (0, u "java/lang/Record"), (0, u "<init>"), (0, u "()V"), (0, .methodref 8 9), (0, .class_ 10), (0, .nameAndType 11 12), (0, u "com/example/ibex/ibex/model/Constant"), (0, u "string"), (0, u "()Z"), (12, .class_ 26), (0, u "com/example/ibex/ibex/model/ColumnType$ApproximateNumbers"), (0, .class_ 28), (0, u "com/example/ibex/ibex/model/ColumnType"), (2, u "holds"), (0, u "(Lcom/example/ibex/ibex/model/Constant;)Z")] 25

def k17c0 : Code := { maxStack := 1, maxLocals := 1, code := prog_66_method_1_code, exceptionTable := #[], attributes := #[] }
def k17m0 : Method := { name := "<init>", desc := "()V", sig := { parameters := [], returnType := none }, accessFlags := 1, code := some k17c0 }
def k17c1 : Code := { maxStack := 1, maxLocals := 2, code := prog_66_method_2_code, exceptionTable := #[], attributes := #[] }
def k17m1 : Method := { name := "holds", desc := "(Lcom/example/ibex/ibex/model/Constant;)Z", sig := { parameters := [(.object "com/example/ibex/ibex/model/Constant")], returnType := some .boolean }, accessFlags := 1, code := some k17c1 }
/-- com/example/ibex/ibex/model/ColumnType$ApproximateNumbers -/
def k17 : Class := { plain "com/example/ibex/ibex/model/ColumnType$ApproximateNumbers" (some 9) with
  accessFlags := 49
  interfaces := #[16]
  cf := some (fileOf pool17 25 #[.nestHost 27] #[{ accessFlags := 1, nameIndex := 5, descriptorIndex := 6, attributes := #[] }, { accessFlags := 1, nameIndex := 31, descriptorIndex := 32, attributes := #[] }] 49 2 #[27] #[])
  fields := #[]
  methods := #[k17m0, k17m1]
  instanceTypes := #[]
  staticTypes := #[]
  resolved := Array.replicate 58 none
  statics := none }

def pool18 : Array CpInfo := pool [(2, .class_ 4), (1, u "java/lang/Object"), (0, u "<init>"), (0, u "()V"), (7, .class_ 16), (1, u "java/util/Arrays"), (57, .class_ 76), (1, u "java/util/Arrays$NaturalOrder"), (36, .class_ 115), (1, u "java/util/Arrays$LegacyMergeSort"), (1, u "Z"), (21, u "copyOfRange"), (10, .methodref 151 152), (0, .class_ 153), (0, .nameAndType 154 155), (0, u "java/lang/System"), (0, u "arraycopy"), (0, u "(Ljava/lang/Object;ILjava/lang/Object;II)V"), (148, .methodref 305 306), (0, .class_ 307), (0, .nameAndType 308 309), (0, u "java/lang/Math"), (0, u "min"), (0, u "(II)I"), (29, .methodref 14 340), (0, .nameAndType 341 342), (0, u "copyOfRangeByte"), (0, u "([BII)[B"), (0, .methodref 14 344), (0, .nameAndType 345 346), (0, u "checkLength"), (0, u "(II)V"), (28, .class_ 376), (0, u "java/util/Arrays$ArrayList"), (68, u "$assertionsDisabled"), (269, u "MIN_ARRAY_SORT_GRAN"), (0, u "I"), (2, u "INSERTIONSORT_THRESHOLD"), (255, .class_ 976), (0, u "java/util/Arrays$ArrayItr")] 52

def k18m0 : Method := { name := "<init>", desc := "()V", sig := { parameters := [], returnType := none }, accessFlags := 2, code := none }
def k18c1 : Code := { maxStack := 4, maxLocals := 2, code := jdk_65_method_131_code, exceptionTable := #[], attributes := #[] }
def k18m1 : Method := { name := "checkLength", desc := "(II)V", sig := { parameters := [.int, .int], returnType := none }, accessFlags := 10, code := some k18c1 }
def k18c2 : Code := { maxStack := 3, maxLocals := 3, code := jdk_65_method_132_code, exceptionTable := #[], attributes := #[] }
def k18m2 : Method := { name := "copyOfRange", desc := "([BII)[B", sig := { parameters := [(.array .byte), .int, .int], returnType := some (.array .byte) }, accessFlags := 9, code := some k18c2 }
def k18c3 : Code := { maxStack := 6, maxLocals := 5, code := jdk_65_method_133_code, exceptionTable := #[], attributes := #[] }
def k18m3 : Method := { name := "copyOfRangeByte", desc := "([BII)[B", sig := { parameters := [(.array .byte), .int, .int], returnType := some (.array .byte) }, accessFlags := 10, code := some k18c3 }
/-- java/util/Arrays -/
def k18 : Class := { plain "java/util/Arrays" (some 0) with
  accessFlags := 49
  interfaces := #[]
  cf := some (fileOf pool18 14 #[.nestMembers #[975, 375, 113, 74]] #[{ accessFlags := 2, nameIndex := 5, descriptorIndex := 6, attributes := #[] }, { accessFlags := 10, nameIndex := 345, descriptorIndex := 346, attributes := #[] }, { accessFlags := 9, nameIndex := 139, descriptorIndex := 342, attributes := #[] }, { accessFlags := 10, nameIndex := 341, descriptorIndex := 342, attributes := #[] }] 49 2 #[] #[{ accessFlags := 26, nameIndex := 715, descriptorIndex := 716, attributes := #[] }, { accessFlags := 26, nameIndex := 719, descriptorIndex := 716, attributes := #[] }, { accessFlags := 4120, nameIndex := 445, descriptorIndex := 117, attributes := #[] }])
  fields := #[{ name := "MIN_ARRAY_SORT_GRAN", type := .int, accessFlags := 26, slot := 0, constantValue := 0 }, { name := "INSERTIONSORT_THRESHOLD", type := .int, accessFlags := 26, slot := 1, constantValue := 0 }, { name := "$assertionsDisabled", type := .boolean, accessFlags := 4120, slot := 2, constantValue := 0 }]
  methods := #[k18m0, k18m1, k18m2, k18m3]
  instanceTypes := #[]
  staticTypes := #[.int, .int, .boolean]
  resolved := Array.replicate 1029 none
  statics := none }

def pool19 : Array CpInfo := pool [(2, .class_ 4), (1, u "java/lang/Object"), (0, u "<init>"), (0, u "()V"), (1, .class_ 10), (1, u "java/lang/System"), (0, u "allowSecurityManager"), (0, u "I"), (16, u "cons"), (0, u "Ljava/io/Console;"), (77, .class_ 110), (1, u "java/lang/System$CallersHolder"), (43, u "initialErrStream"), (0, u "Ljava/io/PrintStream;"), (19, u "security"), (0, u "Ljava/lang/SecurityManager;"), (31, .class_ 209), (0, u "java/lang/System$1"), (7, u "props"), (0, u "Ljava/util/Properties;"), (2, u "lineSeparator"), (0, u "Ljava/lang/String;"), (96, .class_ 321), (1, u "java/lang/System$LoggerFinder"), (5, .class_ 328), (0, u "java/lang/System$Logger"), (67, u "err"), (2, u "out"), (91, u "notSupportedJnuEncoding"), (15, u "in"), (17, u "initialIn"), (0, u "Ljava/io/InputStream;"), (35, u "bootLayer"), (0, u "Ljava/lang/ModuleLayer;"), (99, .class_ 664), (0, u "java/lang/System$2"), (9, u "NEVER"), (2, u "MAYBE"), (49, u "arraycopy"), (0, u "(Ljava/lang/Object;ILjava/lang/Object;II)V"), (72, .class_ 802), (0, u "java/lang/System$Logger$Level")] 31

def k19m0 : Method := { name := "<init>", desc := "()V", sig := { parameters := [], returnType := none }, accessFlags := 2, code := none }
def k19m1 : Method := { name := "arraycopy", desc := "(Ljava/lang/Object;ILjava/lang/Object;II)V", sig := { parameters := [(.object "java/lang/Object"), .int, (.object "java/lang/Object"), .int, .int], returnType := none }, accessFlags := 265, code := none }
/-- java/lang/System -/
def k19 : Class := { plain "java/lang/System" (some 0) with
  accessFlags := 49
  interfaces := #[]
  cf := some (fileOf pool19 8 #[.nestMembers #[319, 327, 801, 108, 663, 208]] #[{ accessFlags := 2, nameIndex := 5, descriptorIndex := 6, attributes := #[] }, { accessFlags := 265, nameIndex := 727, descriptorIndex := 728, attributes := #[] }] 49 2 #[] #[{ accessFlags := 25, nameIndex := 507, descriptorIndex := 526, attributes := #[] }, { accessFlags := 25, nameIndex := 399, descriptorIndex := 155, attributes := #[] }, { accessFlags := 25, nameIndex := 396, descriptorIndex := 155, attributes := #[] }, { accessFlags := 10, nameIndex := 525, descriptorIndex := 526, attributes := #[] }, { accessFlags := 26, nameIndex := 674, descriptorIndex := 12, attributes := #[] }, { accessFlags := 26, nameIndex := 677, descriptorIndex := 12, attributes := #[] }, { accessFlags := 10, nameIndex := 11, descriptorIndex := 12, attributes := #[] }, { accessFlags := 74, nameIndex := 175, descriptorIndex := 176, attributes := #[] }, { accessFlags := 10, nameIndex := 491, descriptorIndex := 222, attributes := #[] }, { accessFlags := 74, nameIndex := 29, descriptorIndex := 30, attributes := #[] }, { accessFlags := 74, nameIndex := 154, descriptorIndex := 155, attributes := #[] }, { accessFlags := 10, nameIndex := 217, descriptorIndex := 218, attributes := #[] }, { accessFlags := 10, nameIndex := 221, descriptorIndex := 222, attributes := #[] }, { accessFlags := 8, nameIndex := 562, descriptorIndex := 563, attributes := #[] }])
  fields := #[{ name := "in", type := (.object "java/io/InputStream"), accessFlags := 25, slot := 0, constantValue := 0 }, { name := "out", type := (.object "java/io/PrintStream"), accessFlags := 25, slot := 1, constantValue := 0 }, { name := "err", type := (.object "java/io/PrintStream"), accessFlags := 25, slot := 2, constantValue := 0 }, { name := "initialIn", type := (.object "java/io/InputStream"), accessFlags := 10, slot := 3, constantValue := 0 }, { name := "NEVER", type := .int, accessFlags := 26, slot := 4, constantValue := 0 }, { name := "MAYBE", type := .int, accessFlags := 26, slot := 5, constantValue := 0 }, { name := "allowSecurityManager", type := .int, accessFlags := 10, slot := 6, constantValue := 0 }, { name := "security", type := (.object "java/lang/SecurityManager"), accessFlags := 74, slot := 7, constantValue := 0 }, { name := "notSupportedJnuEncoding", type := (.object "java/lang/String"), accessFlags := 10, slot := 8, constantValue := 0 }, { name := "cons", type := (.object "java/io/Console"), accessFlags := 74, slot := 9, constantValue := 0 }, { name := "initialErrStream", type := (.object "java/io/PrintStream"), accessFlags := 74, slot := 10, constantValue := 0 }, { name := "props", type := (.object "java/util/Properties"), accessFlags := 10, slot := 11, constantValue := 0 }, { name := "lineSeparator", type := (.object "java/lang/String"), accessFlags := 10, slot := 12, constantValue := 0 }, { name := "bootLayer", type := (.object "java/lang/ModuleLayer"), accessFlags := 8, slot := 13, constantValue := 0 }]
  methods := #[k19m0, k19m1]
  instanceTypes := #[]
  staticTypes := #[(.object "java/io/InputStream"), (.object "java/io/PrintStream"), (.object "java/io/PrintStream"), (.object "java/io/InputStream"), .int, .int, .int, (.object "java/lang/SecurityManager"), (.object "java/lang/String"), (.object "java/io/Console"), (.object "java/io/PrintStream"), (.object "java/util/Properties"), (.object "java/lang/String"), (.object "java/lang/ModuleLayer")]
  resolved := Array.replicate 834 none
  statics := none }

def pool20 : Array CpInfo := pool [(1, .class_ 2), (0, u "java/lang/Appendable"), (0, .class_ 4), (0, u "java/lang/Object")] 9

/-- java/lang/Appendable -/
def k20 : Class := { plain "java/lang/Appendable" (some 0) with
  accessFlags := 1537
  interfaces := #[]
  cf := some (fileOf pool20 1 #[] #[] 1537 3 #[] #[])
  fields := #[]
  methods := #[]
  instanceTypes := #[]
  staticTypes := #[]
  resolved := Array.replicate 14 none
  statics := none }

def pool21 : Array CpInfo := pool [(1, .class_ 2), (0, u "java/lang/String"), (0, .methodref 4 5), (0, .class_ 6), (0, .nameAndType 7 8), (0, u "java/lang/Object"), (0, u "<init>"), (0, u "()V"), (1, .class_ 12), (1, u "java/lang/AbstractStringBuilder"), (0, u "EMPTYVALUE"), (0, u "[B"), (0, .fieldref 10 16), (0, .nameAndType 17 14), (0, u "value"), (0, .fieldref 1 19), (0, .nameAndType 20 21), (0, u "COMPACT_STRINGS"), (0, u "Z"), (0, .fieldref 10 23), (0, .nameAndType 24 25), (0, u "coder"), (0, u "B"), (6, .methodref 1 33), (0, .nameAndType 34 35), (0, u "length"), (0, u "()I"), (4, .methodref 1 41), (0, .nameAndType 24 42), (0, u "()B"), (2, u "append"), (0, u "(Ljava/lang/String;)Ljava/lang/AbstractStringBuilder;"), (1, .class_ 49), (0, u "java/lang/CharSequence"), (19, u "(Ljava/lang/String;)V"), (5, u "maybeLatin1"), (3, .fieldref 10 80), (0, .nameAndType 81 82), (0, u "count"), (0, u "I"), (2, u "isLatin1"), (0, u "()Z"), (13, .methodref 10 101), (0, .nameAndType 102 103), (0, u "ensureCapacityInternal"), (0, u "(I)V"), (104, .methodref 10 209), (0, .nameAndType 210 211), (0, u "putStringAt"), (0, u "(ILjava/lang/String;)V"), (5, u "inflateIfNeededFor"), (2, .nameAndType 221 222), (0, u "getBytes"), (0, u "([BIB)V"), (174, .methodref 10 398), (0, .nameAndType 217 69), (0, .methodref 1 220), (3, u "()[B"), (40, .class_ 445), (0, u "java/lang/Appendable"), (106, u "getValue")] 56

def k21m0 : Method := { name := "<init>", desc := "()V", sig := { parameters := [], returnType := none }, accessFlags := 0, code := none }
def k21c1 : Code := { maxStack := 2, maxLocals := 2, code := jdk_68_method_2_code, exceptionTable := #[], attributes := #[] }
def k21m1 : Method := { name := "<init>", desc := "(I)V", sig := { parameters := [.int], returnType := none }, accessFlags := 0, code := some k21c1 }
def k21c2 : Code := { maxStack := 1, maxLocals := 1, code := jdk_68_method_6_code, exceptionTable := #[], attributes := #[] }
def k21m2 : Method := { name := "length", desc := "()I", sig := { parameters := [], returnType := some .int }, accessFlags := 1, code := some k21c2 }
def k21c3 : Code := { maxStack := 4, maxLocals := 3, code := jdk_68_method_9_code, exceptionTable := #[], attributes := #[] }
def k21m3 : Method := { name := "ensureCapacityInternal", desc := "(I)V", sig := { parameters := [.int], returnType := none }, accessFlags := 2, code := some k21c3 }
def k21c4 : Code := { maxStack := 3, maxLocals := 3, code := jdk_68_method_22_code, exceptionTable := #[], attributes := #[] }
def k21m4 : Method := { name := "append", desc := "(Ljava/lang/String;)Ljava/lang/AbstractStringBuilder;", sig := { parameters := [(.object "java/lang/String")], returnType := some (.object "java/lang/AbstractStringBuilder") }, accessFlags := 1, code := some k21c4 }
def k21c5 : Code := { maxStack := 1, maxLocals := 1, code := jdk_68_method_64_code, exceptionTable := #[], attributes := #[] }
def k21m5 : Method := { name := "getValue", desc := "()[B", sig := { parameters := [], returnType := some (.array .byte) }, accessFlags := 16, code := some k21c5 }
def k21c6 : Code := { maxStack := 1, maxLocals := 1, code := jdk_68_method_68_code, exceptionTable := #[], attributes := #[] }
def k21m6 : Method := { name := "isLatin1", desc := "()Z", sig := { parameters := [], returnType := some .boolean }, accessFlags := 16, code := some k21c6 }
def k21c7 : Code := { maxStack := 2, maxLocals := 2, code := jdk_68_method_71_code, exceptionTable := #[], attributes := #[] }
def k21m7 : Method := { name := "inflateIfNeededFor", desc := "(Ljava/lang/String;)V", sig := { parameters := [(.object "java/lang/String")], returnType := none }, accessFlags := 2, code := some k21c7 }
def k21c8 : Code := { maxStack := 4, maxLocals := 3, code := jdk_68_method_73_code, exceptionTable := #[], attributes := #[] }
def k21m8 : Method := { name := "putStringAt", desc := "(ILjava/lang/String;)V", sig := { parameters := [.int, (.object "java/lang/String")], returnType := none }, accessFlags := 2, code := some k21c8 }
/-- java/lang/AbstractStringBuilder -/
def k21 : Class := { plain "java/lang/AbstractStringBuilder" (some 0) with
  accessFlags := 1056
  interfaces := #[20, 4]
  cf := some (fileOf pool21 10 #[] #[{ accessFlags := 0, nameIndex := 7, descriptorIndex := 8, attributes := #[] }, { accessFlags := 0, nameIndex := 7, descriptorIndex := 103, attributes := #[] }, { accessFlags := 1, nameIndex := 34, descriptorIndex := 35, attributes := #[] }, { accessFlags := 2, nameIndex := 102, descriptorIndex := 103, attributes := #[] }, { accessFlags := 1, nameIndex := 45, descriptorIndex := 46, attributes := #[] }, { accessFlags := 16, nameIndex := 552, descriptorIndex := 403, attributes := #[] }, { accessFlags := 16, nameIndex := 85, descriptorIndex := 86, attributes := #[] }, { accessFlags := 2, nameIndex := 217, descriptorIndex := 69, attributes := #[] }, { accessFlags := 2, nameIndex := 210, descriptorIndex := 211, attributes := #[] }] 1056 4 #[444, 48] #[{ accessFlags := 0, nameIndex := 17, descriptorIndex := 14, attributes := #[] }, { accessFlags := 0, nameIndex := 24, descriptorIndex := 25, attributes := #[] }, { accessFlags := 0, nameIndex := 75, descriptorIndex := 21, attributes := #[] }, { accessFlags := 0, nameIndex := 81, descriptorIndex := 82, attributes := #[] }, { accessFlags := 26, nameIndex := 13, descriptorIndex := 14, attributes := #[] }])
  fields := #[{ name := "value", type := (.array .byte), accessFlags := 0, slot := 0, constantValue := 0 }, { name := "coder", type := .byte, accessFlags := 0, slot := 1, constantValue := 0 }, { name := "maybeLatin1", type := .boolean, accessFlags := 0, slot := 2, constantValue := 0 }, { name := "count", type := .int, accessFlags := 0, slot := 3, constantValue := 0 }, { name := "EMPTYVALUE", type := (.array .byte), accessFlags := 26, slot := 0, constantValue := 0 }]
  methods := #[k21m0, k21m1, k21m2, k21m3, k21m4, k21m5, k21m6, k21m7, k21m8]
  instanceTypes := #[(.array .byte), .byte, .boolean, .int]
  staticTypes := #[(.array .byte)]
  resolved := Array.replicate 609 none
  statics := none }

def pool22 : Array CpInfo := pool [(1, .methodref 2 3), (0, .class_ 4), (0, .nameAndType 5 6), (0, u "java/lang/AbstractStringBuilder"), (0, u "<init>"), (0, u "(I)V"), (11, .class_ 20), (1, u "java/lang/String"), (3, .class_ 26), (1, u "java/lang/StringBuilder"), (0, u "append"), (0, u "(Ljava/lang/String;)Ljava/lang/StringBuilder;"), (0, .methodref 2 30), (0, .nameAndType 27 31), (0, u "(Ljava/lang/String;)Ljava/lang/AbstractStringBuilder;"), (105, .methodref 18 138), (0, .nameAndType 5 139), (0, u "(Ljava/lang/StringBuilder;)V"), (5, u "()V"), (10, u "()I"), (186, .methodref 2 344), (0, .nameAndType 345 156), (0, u "length"), (3, .class_ 350), (0, u "java/lang/Appendable"), (0, .class_ 352), (0, u "java/io/Serializable"), (0, .class_ 354), (0, u "java/lang/Comparable"), (0, .class_ 356), (0, u "java/lang/CharSequence"), (0, u "serialVersionUID"), (0, u "J"), (40, u "toString"), (0, u "()Ljava/lang/String;")] 21

def k22c0 : Code := { maxStack := 2, maxLocals := 1, code := jdk_67_method_1_code, exceptionTable := #[], attributes := #[] }
def k22m0 : Method := { name := "<init>", desc := "()V", sig := { parameters := [], returnType := none }, accessFlags := 1, code := some k22c0 }
def k22c1 : Code := { maxStack := 2, maxLocals := 2, code := jdk_67_method_7_code, exceptionTable := #[], attributes := #[] }
def k22m1 : Method := { name := "append", desc := "(Ljava/lang/String;)Ljava/lang/StringBuilder;", sig := { parameters := [(.object "java/lang/String")], returnType := some (.object "java/lang/StringBuilder") }, accessFlags := 1, code := some k22c1 }
def k22c2 : Code := { maxStack := 3, maxLocals := 1, code := jdk_67_method_42_code, exceptionTable := #[], attributes := #[] }
def k22m2 : Method := { name := "toString", desc := "()Ljava/lang/String;", sig := { parameters := [], returnType := some (.object "java/lang/String") }, accessFlags := 1, code := some k22c2 }
def k22c3 : Code := { maxStack := 1, maxLocals := 1, code := jdk_67_method_93_code, exceptionTable := #[], attributes := #[] }
def k22m3 : Method := { name := "length", desc := "()I", sig := { parameters := [], returnType := some .int }, accessFlags := 4161, code := some k22c3 }
/-- java/lang/StringBuilder -/
def k22 : Class := { plain "java/lang/StringBuilder" (some 21) with
  accessFlags := 49
  interfaces := #[20, 2, 3, 4]
  cf := some (fileOf pool22 24 #[] #[{ accessFlags := 1, nameIndex := 5, descriptorIndex := 145, attributes := #[] }, { accessFlags := 1, nameIndex := 27, descriptorIndex := 28, attributes := #[] }, { accessFlags := 1, nameIndex := 399, descriptorIndex := 400, attributes := #[] }, { accessFlags := 4161, nameIndex := 345, descriptorIndex := 156, attributes := #[] }] 49 2 #[349, 351, 353, 355] #[{ accessFlags := 24, nameIndex := 357, descriptorIndex := 358, attributes := #[] }])
  fields := #[{ name := "serialVersionUID", type := .long, accessFlags := 24, slot := 0, constantValue := 0 }]
  methods := #[k22m0, k22m1, k22m2, k22m3]
  instanceTypes := #[(.array .byte), .byte, .boolean, .int]
  staticTypes := #[.long]
  resolved := Array.replicate 422 none
  statics := none }

def pool23 : Array CpInfo := pool [(1, u "java/lang/Cloneable"), (0, .class_ 1), (0, u "java/lang/Object"), (0, .class_ 3)] 3

/-- java/lang/Cloneable -/
def k23 : Class := { plain "java/lang/Cloneable" (some 0) with
  accessFlags := 1537
  interfaces := #[]
  cf := some (fileOf pool23 2 #[] #[] 1537 4 #[] #[])
  fields := #[]
  methods := #[]
  instanceTypes := #[]
  staticTypes := #[]
  resolved := Array.replicate 8 none
  statics := none }

/-- the primitive byte -/
def k24 : Class := { plain "byte" none with kind := .primitive 'B', accessFlags := 0x411 }
/-- [B -/
def k25 : Class := { plain "[B" (some 0) with kind := .array 24 .byte, interfaces := #[23, 2], accessFlags := 1041 }

/-- the primitive char -/
def k26 : Class := { plain "char" none with kind := .primitive 'C', accessFlags := 0x411 }
/-- [C -/
def k27 : Class := { plain "[C" (some 0) with kind := .array 26 .char, interfaces := #[23, 2], accessFlags := 1041 }

/-- the primitive int -/
def k28 : Class := { plain "int" none with kind := .primitive 'I', accessFlags := 0x411 }
/-- [I -/
def k29 : Class := { plain "[I" (some 0) with kind := .array 28 .int, interfaces := #[23, 2], accessFlags := 1041 }

def heap : Heap := #[{ cls := 7, slots := #[.long 0, .int 1, .null, .int 0, .null, .int 0, .int 0], vm := .statics 7 },
  { cls := 15, slots := #[.null, .null, .null], vm := .statics 15 }]
def classes : Array Class := #[k0, k1, k2, k3, k4, k5, k6, k7, k8, k9, k10, k11, k12, k13, k14, k15, k16, k17, k18, k19, k20, k21, k22, k23, k24, k25, k26, k27, k28, k29]
def interned : List (Array UInt16 × Addr) := []
def slotsUsed : Nat := 10
def theMethod : MethodId := ⟨1, 2⟩
def args0 : Array Value := #[.int 3, .int 4, .int 5, .int 6]
def aboutOver (below : List Frame) : State where
  vm := { classes := classes, interned := interned.toArray }
  heap := heap
  slotsUsed := slotsUsed
  threads := #[{ frames := .invoking theMethod args0 :: below }]
def below0 : List Frame := [.native { method := ⟨0, 0⟩, args := #[] }]
def about1 : State := aboutOver below0
def p0 : Program := .bare "" "" ""
def e0 : Env := launch0.env 0 0 0
theorem w_frames : about1.frames = Frame.invoking theMethod args0 :: below0 := rfl
set_option maxRecDepth 65536 in
theorem w_args : argsFit about1.vm theMethod args0 = true := by decide +kernel
set_option maxRecDepth 65536 in
theorem w_heap : heapFits about1 = true := by decide +kernel
set_option maxRecDepth 65536 in
theorem w_runnable : about1.curStatus? = some .runnable := by decide +kernel
set_option maxRecDepth 65536 in
theorem w_alone : about1.alone = true := by decide +kernel
set_option maxRecDepth 65536 in
theorem w_named : about1.methodNamed? x = some theMethod := by decide +kernel
set_option maxRecDepth 65536 in
theorem w_hears : about1.hears theMethod below0 = true := by decide +kernel
set_option maxRecDepth 65536 in
theorem w_ripe : about1.ripe theMethod args0 below0 = true := by decide +kernel
theorem w_running : about1.status = .running := rfl
set_option maxRecDepth 65536 in
theorem w_room : about1.hasRoom e0.platform room_1 = true :=
  launch0.hasRoom_least _ room_1 (by decide +kernel) (by decide +kernel) (by decide +kernel) (by decide +kernel) (by decide +kernel) (by decide +kernel)
theorem allAtoms_all (ts : List Jvm.Cond) (a : Array Jvm.Value) (st : Jvm.State) : (allAtoms ts).before a st = ts.all (fun c => c.before a st) := by
  induction ts with
  | nil => rfl
  | cons c t ih =>
    show (Jvm.Cond.and c (allAtoms t)).before a st = _
    rw [Jvm.Cond.before_and, ih, List.all_cons]
def words1 : List Jvm.Cond := Jvm.Cond.code x code maxLocals ret :: tables_1
/-- a 'code' word, met by the world's own term for the bytes: nothing is compared byte by byte -/
theorem code_word {y : MethodName} {bytes : ByteArray} {mx : Nat} {rt : Option FieldType} {a : Array Value} {s : State} {m : MethodId} {meth : Method} {c : Code} (h1 : s.methodNamed? y = some m) (h2 : s.vm.method? m = some meth) (h3 : meth.code = some c) (h4 : c.code = bytes)
    (h5 : (c.maxLocals == mx && c.exceptionTable.isEmpty && decide (c.maxStack ≤ mostOperands) && decide (meth.sig.returnType = rt) && !meth.locks && decide (parseMethodDescriptor y.desc = some meth.sig)) = true) : (Jvm.Cond.code y bytes mx rt).before a s = true := by
  simp only [Bool.and_eq_true, beq_iff_eq, Bool.not_eq_true', decide_eq_true_eq] at h5
  obtain ⟨⟨⟨⟨⟨g1, g2⟩, g3⟩, g4⟩, g5⟩, g6⟩ := h5
  simp [Cond.before, Cond.holds, Cond.value, h1, h2, h3, h4, g1, g2, g3, g4, g5, g6]
def isCode : Jvm.Cond → Bool
  | .code _ _ _ _ => true
  | _ => false
theorem all_split {L : List Jvm.Cond} {P : Jvm.Cond → Bool} (h1 : L.all (fun c => isCode c || P c) = true) (h2 : ∀ c ∈ L.filter isCode, P c = true) : L.all P = true := by
  refine List.all_eq_true.mpr fun c hc => ?_
  have h := List.all_eq_true.mp h1 c hc
  rcases Bool.eq_false_or_eq_true (isCode c) with hi | hi
  · exact h2 c (List.mem_filter.mpr ⟨hc, hi⟩)
  · simpa [hi] using h
set_option maxRecDepth 65536 in
theorem w_c0 : (Jvm.Cond.code x code maxLocals ret).before args0 about1 = true := code_word (m := ⟨1, 2⟩) (meth := k1m2) (c := k1c2) (by decide +kernel) rfl rfl rfl (by decide +kernel)
set_option maxRecDepth 65536 in
theorem w_c1 : (Jvm.Cond.code ({ cls := "com/example/ibex/ibex/model/ApproximateNumbersHoldsPinLaw", name := "digit", desc := "(I)C" } : Jvm.MethodName) method_2_code (1 : Nat) (Option.some Jvm.ClassFile.FieldType.char)).before args0 about1 = true := code_word (m := ⟨1, 1⟩) (meth := k1m1) (c := k1c1) (by decide +kernel) rfl rfl rfl (by decide +kernel)
set_option maxRecDepth 65536 in
theorem w_c2 : (Jvm.Cond.code ({ cls := "java/lang/String", name := "<init>", desc := "([C)V" } : Jvm.MethodName) jdk_42_method_3_code (2 : Nat) (Option.none : Option Jvm.ClassFile.FieldType)).before args0 about1 = true := code_word (m := ⟨7, 1⟩) (meth := k7m1) (c := k7c1) (by decide +kernel) rfl rfl rfl (by decide +kernel)
set_option maxRecDepth 65536 in
theorem w_c3 : (Jvm.Cond.code ({ cls := "java/lang/String", name := "<init>", desc := "([CIILjava/lang/Void;)V" } : Jvm.MethodName) jdk_42_method_149_code (6 : Nat) (Option.none : Option Jvm.ClassFile.FieldType)).before args0 about1 = true := code_word (m := ⟨7, 12⟩) (meth := k7m12) (c := k7c12) (by decide +kernel) rfl rfl rfl (by decide +kernel)
set_option maxRecDepth 65536 in
theorem w_c4 : (Jvm.Cond.code ({ cls := "java/lang/Object", name := "<init>", desc := "()V" } : Jvm.MethodName) object_method_1_code (1 : Nat) (Option.none : Option Jvm.ClassFile.FieldType)).before args0 about1 = true := code_word (m := ⟨0, 0⟩) (meth := k0m0) (c := k0c0) (by decide +kernel) rfl rfl rfl (by decide +kernel)
set_option maxRecDepth 65536 in
theorem w_c5 : (Jvm.Cond.code ({ cls := "java/lang/StringUTF16", name := "compress", desc := "([CII)[B" } : Jvm.MethodName) jdk_52_method_16_code (6 : Nat) (Option.some (Jvm.ClassFile.FieldType.array Jvm.ClassFile.FieldType.byte))).before args0 about1 = true := code_word (m := ⟨8, 2⟩) (meth := k8m2) (c := k8c2) (by decide +kernel) rfl rfl rfl (by decide +kernel)
set_option maxRecDepth 65536 in
theorem w_c6 : (Jvm.Cond.code ({ cls := "java/lang/StringUTF16", name := "compress", desc := "([CI[BII)I" } : Jvm.MethodName) jdk_52_method_21_code (7 : Nat) (Option.some Jvm.ClassFile.FieldType.int)).before args0 about1 = true := code_word (m := ⟨8, 3⟩) (meth := k8m3) (c := k8c3) (by decide +kernel) rfl rfl rfl (by decide +kernel)
set_option maxRecDepth 65536 in
theorem w_c7 : (Jvm.Cond.code ({ cls := "java/lang/StringUTF16", name := "coderFromArrayLen", desc := "([BI)B" } : Jvm.MethodName) jdk_52_method_15_code (2 : Nat) (Option.some Jvm.ClassFile.FieldType.byte)).before args0 about1 = true := code_word (m := ⟨8, 1⟩) (meth := k8m1) (c := k8c1) (by decide +kernel) rfl rfl rfl (by decide +kernel)
set_option maxRecDepth 65536 in
theorem w_c8 : (Jvm.Cond.code ({ cls := "com/example/ibex/ibex/model/Constant", name := "<init>", desc := "(ZLjava/lang/String;)V" } : Jvm.MethodName) prog_69_method_1_code (3 : Nat) (Option.none : Option Jvm.ClassFile.FieldType)).before args0 about1 = true := code_word (m := ⟨10, 0⟩) (meth := k10m0) (c := k10c0) (by decide +kernel) rfl rfl rfl (by decide +kernel)
set_option maxRecDepth 65536 in
theorem w_c9 : (Jvm.Cond.code ({ cls := "java/lang/Record", name := "<init>", desc := "()V" } : Jvm.MethodName) jdk_30_method_1_code (1 : Nat) (Option.none : Option Jvm.ClassFile.FieldType)).before args0 about1 = true := code_word (m := ⟨9, 0⟩) (meth := k9m0) (c := k9c0) (by decide +kernel) rfl rfl rfl (by decide +kernel)
set_option maxRecDepth 65536 in
theorem w_c10 : (Jvm.Cond.code ({ cls := "java/util/Objects", name := "requireNonNull", desc := "(Ljava/lang/Object;Ljava/lang/String;)Ljava/lang/Object;" } : Jvm.MethodName) jdk_31_method_11_code (2 : Nat) (Option.some (Jvm.ClassFile.FieldType.object "java/lang/Object"))).before args0 about1 = true := code_word (m := ⟨11, 1⟩) (meth := k11m1) (c := k11c1) (by decide +kernel) rfl rfl rfl (by decide +kernel)
set_option maxRecDepth 65536 in
theorem w_c11 : (Jvm.Cond.code ({ cls := "com/example/ibex/ibex/model/Constant", name := "plainDigits", desc := "(Ljava/lang/String;)Ljava/lang/String;" } : Jvm.MethodName) prog_69_method_5_code (8 : Nat) (Option.some (Jvm.ClassFile.FieldType.object "java/lang/String"))).before args0 about1 = true := code_word (m := ⟨10, 1⟩) (meth := k10m1) (c := k10c1) (by decide +kernel) rfl rfl rfl (by decide +kernel)
set_option maxRecDepth 65536 in
theorem w_c12 : (Jvm.Cond.code ({ cls := "java/lang/String", name := "startsWith", desc := "(Ljava/lang/String;)Z" } : Jvm.MethodName) jdk_42_method_76_code (2 : Nat) (Option.some Jvm.ClassFile.FieldType.boolean)).before args0 about1 = true := code_word (m := ⟨7, 7⟩) (meth := k7m7) (c := k7c7) (by decide +kernel) rfl rfl rfl (by decide +kernel)
set_option maxRecDepth 65536 in
theorem w_c13 : (Jvm.Cond.code ({ cls := "java/lang/String", name := "startsWith", desc := "(Ljava/lang/String;I)Z" } : Jvm.MethodName) jdk_42_method_75_code (8 : Nat) (Option.some Jvm.ClassFile.FieldType.boolean)).before args0 about1 = true := code_word (m := ⟨7, 6⟩) (meth := k7m6) (c := k7c6) (by decide +kernel) rfl rfl rfl (by decide +kernel)
set_option maxRecDepth 65536 in
theorem w_c14 : (Jvm.Cond.code ({ cls := "java/lang/String", name := "length", desc := "()I" } : Jvm.MethodName) jdk_42_method_54_code (1 : Nat) (Option.some Jvm.ClassFile.FieldType.int)).before args0 about1 = true := code_word (m := ⟨7, 3⟩) (meth := k7m3) (c := k7c3) (by decide +kernel) rfl rfl rfl (by decide +kernel)
set_option maxRecDepth 65536 in
theorem w_c15 : (Jvm.Cond.code ({ cls := "java/lang/String", name := "coder", desc := "()B" } : Jvm.MethodName) jdk_42_method_152_code (1 : Nat) (Option.some Jvm.ClassFile.FieldType.byte)).before args0 about1 = true := code_word (m := ⟨7, 15⟩) (meth := k7m15) (c := k7c15) (by decide +kernel) rfl rfl rfl (by decide +kernel)
set_option maxRecDepth 65536 in
theorem w_c16 : (Jvm.Cond.code ({ cls := "jdk/internal/util/ArraysSupport", name := "mismatch", desc := "([BI[BII)I" } : Jvm.MethodName) jdk_48_method_14_code (8 : Nat) (Option.some Jvm.ClassFile.FieldType.int)).before args0 about1 = true := code_word (m := ⟨12, 1⟩) (meth := k12m1) (c := k12c1) (by decide +kernel) rfl rfl rfl (by decide +kernel)
set_option maxRecDepth 65536 in
theorem w_c17 : (Jvm.Cond.code ({ cls := "java/lang/String", name := "indexOf", desc := "(I)I" } : Jvm.MethodName) jdk_42_method_79_code (2 : Nat) (Option.some Jvm.ClassFile.FieldType.int)).before args0 about1 = true := code_word (m := ⟨7, 8⟩) (meth := k7m8) (c := k7c8) (by decide +kernel) rfl rfl rfl (by decide +kernel)
set_option maxRecDepth 65536 in
theorem w_c18 : (Jvm.Cond.code ({ cls := "java/lang/String", name := "indexOf", desc := "(II)I" } : Jvm.MethodName) jdk_42_method_80_code (3 : Nat) (Option.some Jvm.ClassFile.FieldType.int)).before args0 about1 = true := code_word (m := ⟨7, 9⟩) (meth := k7m9) (c := k7c9) (by decide +kernel) rfl rfl rfl (by decide +kernel)
set_option maxRecDepth 65536 in
theorem w_c19 : (Jvm.Cond.code ({ cls := "java/lang/String", name := "isLatin1", desc := "()Z" } : Jvm.MethodName) jdk_42_method_154_code (1 : Nat) (Option.some Jvm.ClassFile.FieldType.boolean)).before args0 about1 = true := code_word (m := ⟨7, 16⟩) (meth := k7m16) (c := k7c16) (by decide +kernel) rfl rfl rfl (by decide +kernel)
set_option maxRecDepth 65536 in
theorem w_c20 : (Jvm.Cond.code ({ cls := "java/lang/StringLatin1", name := "indexOf", desc := "([BIII)I" } : Jvm.MethodName) jdk_43_method_22_code (4 : Nat) (Option.some Jvm.ClassFile.FieldType.int)).before args0 about1 = true := code_word (m := ⟨13, 4⟩) (meth := k13m4) (c := k13c4) (by decide +kernel) rfl rfl rfl (by decide +kernel)
set_option maxRecDepth 65536 in
theorem w_c21 : (Jvm.Cond.code ({ cls := "java/lang/StringLatin1", name := "canEncode", desc := "(I)Z" } : Jvm.MethodName) jdk_43_method_4_code (1 : Nat) (Option.some Jvm.ClassFile.FieldType.boolean)).before args0 about1 = true := code_word (m := ⟨13, 2⟩) (meth := k13m2) (c := k13c2) (by decide +kernel) rfl rfl rfl (by decide +kernel)
set_option maxRecDepth 65536 in
theorem w_c22 : (Jvm.Cond.code ({ cls := "java/lang/Math", name := "max", desc := "(II)I" } : Jvm.MethodName) jdk_29_method_65_code (2 : Nat) (Option.some Jvm.ClassFile.FieldType.int)).before args0 about1 = true := code_word (m := ⟨14, 1⟩) (meth := k14m1) (c := k14c1) (by decide +kernel) rfl rfl rfl (by decide +kernel)
set_option maxRecDepth 65536 in
theorem w_c23 : (Jvm.Cond.code ({ cls := "java/lang/Math", name := "min", desc := "(II)I" } : Jvm.MethodName) jdk_29_method_69_code (2 : Nat) (Option.some Jvm.ClassFile.FieldType.int)).before args0 about1 = true := code_word (m := ⟨14, 2⟩) (meth := k14m2) (c := k14c2) (by decide +kernel) rfl rfl rfl (by decide +kernel)
set_option maxRecDepth 65536 in
theorem w_c24 : (Jvm.Cond.code ({ cls := "java/lang/StringLatin1", name := "indexOfChar", desc := "([BIII)I" } : Jvm.MethodName) jdk_43_method_23_code (6 : Nat) (Option.some Jvm.ClassFile.FieldType.int)).before args0 about1 = true := code_word (m := ⟨13, 5⟩) (meth := k13m5) (c := k13c5) (by decide +kernel) rfl rfl rfl (by decide +kernel)
set_option maxRecDepth 65536 in
theorem w_c25 : (Jvm.Cond.code ({ cls := "com/example/ibex/ibex/model/Constant", name := "digits", desc := "(Ljava/lang/String;II)Z" } : Jvm.MethodName) prog_69_method_6_code (5 : Nat) (Option.some Jvm.ClassFile.FieldType.boolean)).before args0 about1 = true := code_word (m := ⟨10, 2⟩) (meth := k10m2) (c := k10c2) (by decide +kernel) rfl rfl rfl (by decide +kernel)
set_option maxRecDepth 65536 in
theorem w_c26 : (Jvm.Cond.code ({ cls := "java/lang/String", name := "charAt", desc := "(I)C" } : Jvm.MethodName) jdk_42_method_56_code (2 : Nat) (Option.some Jvm.ClassFile.FieldType.char)).before args0 about1 = true := code_word (m := ⟨7, 4⟩) (meth := k7m4) (c := k7c4) (by decide +kernel) rfl rfl rfl (by decide +kernel)
set_option maxRecDepth 65536 in
theorem w_c27 : (Jvm.Cond.code ({ cls := "java/lang/StringLatin1", name := "charAt", desc := "([BI)C" } : Jvm.MethodName) jdk_43_method_2_code (2 : Nat) (Option.some Jvm.ClassFile.FieldType.char)).before args0 about1 = true := code_word (m := ⟨13, 1⟩) (meth := k13m1) (c := k13c1) (by decide +kernel) rfl rfl rfl (by decide +kernel)
set_option maxRecDepth 65536 in
theorem w_c28 : (Jvm.Cond.code ({ cls := "java/lang/String", name := "checkIndex", desc := "(II)V" } : Jvm.MethodName) jdk_42_method_155_code (2 : Nat) (Option.none : Option Jvm.ClassFile.FieldType)).before args0 about1 = true := code_word (m := ⟨7, 17⟩) (meth := k7m17) (c := k7c17) (by decide +kernel) rfl rfl rfl (by decide +kernel)
set_option maxRecDepth 65536 in
theorem w_c29 : (Jvm.Cond.code ({ cls := "jdk/internal/util/Preconditions", name := "checkIndex", desc := "(IILjava/util/function/BiFunction;)I" } : Jvm.MethodName) jdk_41_method_11_code (3 : Nat) (Option.some Jvm.ClassFile.FieldType.int)).before args0 about1 = true := code_word (m := ⟨15, 1⟩) (meth := k15m1) (c := k15c1) (by decide +kernel) rfl rfl rfl (by decide +kernel)
set_option maxRecDepth 65536 in
theorem w_c30 : (Jvm.Cond.code ({ cls := "java/lang/String", name := "substring", desc := "(II)Ljava/lang/String;" } : Jvm.MethodName) jdk_42_method_92_code (5 : Nat) (Option.some (Jvm.ClassFile.FieldType.object "java/lang/String"))).before args0 about1 = true := code_word (m := ⟨7, 10⟩) (meth := k7m10) (c := k7c10) (by decide +kernel) rfl rfl rfl (by decide +kernel)
set_option maxRecDepth 65536 in
theorem w_c31 : (Jvm.Cond.code ({ cls := "java/lang/String", name := "checkBoundsBeginEnd", desc := "(III)V" } : Jvm.MethodName) jdk_42_method_158_code (3 : Nat) (Option.none : Option Jvm.ClassFile.FieldType)).before args0 about1 = true := code_word (m := ⟨7, 18⟩) (meth := k7m18) (c := k7c18) (by decide +kernel) rfl rfl rfl (by decide +kernel)
set_option maxRecDepth 65536 in
theorem w_c32 : (Jvm.Cond.code ({ cls := "jdk/internal/util/Preconditions", name := "checkFromToIndex", desc := "(IIILjava/util/function/BiFunction;)I" } : Jvm.MethodName) jdk_41_method_12_code (4 : Nat) (Option.some Jvm.ClassFile.FieldType.int)).before args0 about1 = true := code_word (m := ⟨15, 2⟩) (meth := k15m2) (c := k15c2) (by decide +kernel) rfl rfl rfl (by decide +kernel)
set_option maxRecDepth 65536 in
theorem w_c33 : (Jvm.Cond.code ({ cls := "com/example/ibex/ibex/model/ColumnType$ApproximateNumbers", name := "<init>", desc := "()V" } : Jvm.MethodName) prog_66_method_1_code (1 : Nat) (Option.none : Option Jvm.ClassFile.FieldType)).before args0 about1 = true := code_word (m := ⟨17, 0⟩) (meth := k17m0) (c := k17c0) (by decide +kernel) rfl rfl rfl (by decide +kernel)
set_option maxRecDepth 65536 in
theorem w_c34 : (Jvm.Cond.code ({ cls := "com/example/ibex/ibex/model/ColumnType$ApproximateNumbers", name := "holds", desc := "(Lcom/example/ibex/ibex/model/Constant;)Z" } : Jvm.MethodName) prog_66_method_2_code (2 : Nat) (Option.some Jvm.ClassFile.FieldType.boolean)).before args0 about1 = true := code_word (m := ⟨17, 1⟩) (meth := k17m1) (c := k17c1) (by decide +kernel) rfl rfl rfl (by decide +kernel)
set_option maxRecDepth 65536 in
theorem w_c35 : (Jvm.Cond.code ({ cls := "com/example/ibex/ibex/model/Constant", name := "string", desc := "()Z" } : Jvm.MethodName) prog_69_method_10_code (1 : Nat) (Option.some Jvm.ClassFile.FieldType.boolean)).before args0 about1 = true := code_word (m := ⟨10, 3⟩) (meth := k10m3) (c := k10c3) (by decide +kernel) rfl rfl rfl (by decide +kernel)
set_option maxRecDepth 65536 in
theorem w_c36 : (Jvm.Cond.code ({ cls := "java/lang/StringLatin1", name := "newString", desc := "([BII)Ljava/lang/String;" } : Jvm.MethodName) jdk_43_method_47_code (3 : Nat) (Option.some (Jvm.ClassFile.FieldType.object "java/lang/String"))).before args0 about1 = true := code_word (m := ⟨13, 6⟩) (meth := k13m6) (c := k13c6) (by decide +kernel) rfl rfl rfl (by decide +kernel)
set_option maxRecDepth 65536 in
theorem w_c37 : (Jvm.Cond.code ({ cls := "java/util/Arrays", name := "copyOfRange", desc := "([BII)[B" } : Jvm.MethodName) jdk_65_method_132_code (3 : Nat) (Option.some (Jvm.ClassFile.FieldType.array Jvm.ClassFile.FieldType.byte))).before args0 about1 = true := code_word (m := ⟨18, 2⟩) (meth := k18m2) (c := k18c2) (by decide +kernel) rfl rfl rfl (by decide +kernel)
set_option maxRecDepth 65536 in
theorem w_c38 : (Jvm.Cond.code ({ cls := "java/util/Arrays", name := "copyOfRangeByte", desc := "([BII)[B" } : Jvm.MethodName) jdk_65_method_133_code (5 : Nat) (Option.some (Jvm.ClassFile.FieldType.array Jvm.ClassFile.FieldType.byte))).before args0 about1 = true := code_word (m := ⟨18, 3⟩) (meth := k18m3) (c := k18c3) (by decide +kernel) rfl rfl rfl (by decide +kernel)
set_option maxRecDepth 65536 in
theorem w_c39 : (Jvm.Cond.code ({ cls := "java/util/Arrays", name := "checkLength", desc := "(II)V" } : Jvm.MethodName) jdk_65_method_131_code (2 : Nat) (Option.none : Option Jvm.ClassFile.FieldType)).before args0 about1 = true := code_word (m := ⟨18, 1⟩) (meth := k18m1) (c := k18c1) (by decide +kernel) rfl rfl rfl (by decide +kernel)
set_option maxRecDepth 65536 in
theorem w_c40 : (Jvm.Cond.code ({ cls := "java/lang/String", name := "<init>", desc := "([BB)V" } : Jvm.MethodName) jdk_42_method_151_code (3 : Nat) (Option.none : Option Jvm.ClassFile.FieldType)).before args0 about1 = true := code_word (m := ⟨7, 14⟩) (meth := k7m14) (c := k7c14) (by decide +kernel) rfl rfl rfl (by decide +kernel)
set_option maxRecDepth 65536 in
theorem w_c41 : (Jvm.Cond.code ({ cls := "java/lang/String", name := "equals", desc := "(Ljava/lang/Object;)Z" } : Jvm.MethodName) jdk_42_method_66_code (3 : Nat) (Option.some Jvm.ClassFile.FieldType.boolean)).before args0 about1 = true := code_word (m := ⟨7, 5⟩) (meth := k7m5) (c := k7c5) (by decide +kernel) rfl rfl rfl (by decide +kernel)
set_option maxRecDepth 65536 in
theorem w_c42 : (Jvm.Cond.code ({ cls := "java/lang/StringLatin1", name := "equals", desc := "([B[B)Z" } : Jvm.MethodName) jdk_43_method_13_code (3 : Nat) (Option.some Jvm.ClassFile.FieldType.boolean)).before args0 about1 = true := code_word (m := ⟨13, 3⟩) (meth := k13m3) (c := k13c3) (by decide +kernel) rfl rfl rfl (by decide +kernel)
set_option maxRecDepth 65536 in
theorem w_c43 : (Jvm.Cond.code ({ cls := "java/lang/StringBuilder", name := "<init>", desc := "()V" } : Jvm.MethodName) jdk_67_method_1_code (1 : Nat) (Option.none : Option Jvm.ClassFile.FieldType)).before args0 about1 = true := code_word (m := ⟨22, 0⟩) (meth := k22m0) (c := k22c0) (by decide +kernel) rfl rfl rfl (by decide +kernel)
set_option maxRecDepth 65536 in
theorem w_c44 : (Jvm.Cond.code ({ cls := "java/lang/AbstractStringBuilder", name := "<init>", desc := "(I)V" } : Jvm.MethodName) jdk_68_method_2_code (2 : Nat) (Option.none : Option Jvm.ClassFile.FieldType)).before args0 about1 = true := code_word (m := ⟨21, 1⟩) (meth := k21m1) (c := k21c1) (by decide +kernel) rfl rfl rfl (by decide +kernel)
set_option maxRecDepth 65536 in
theorem w_c45 : (Jvm.Cond.code ({ cls := "java/lang/StringBuilder", name := "append", desc := "(Ljava/lang/String;)Ljava/lang/StringBuilder;" } : Jvm.MethodName) jdk_67_method_7_code (2 : Nat) (Option.some (Jvm.ClassFile.FieldType.object "java/lang/StringBuilder"))).before args0 about1 = true := code_word (m := ⟨22, 1⟩) (meth := k22m1) (c := k22c1) (by decide +kernel) rfl rfl rfl (by decide +kernel)
set_option maxRecDepth 65536 in
theorem w_c46 : (Jvm.Cond.code ({ cls := "java/lang/AbstractStringBuilder", name := "append", desc := "(Ljava/lang/String;)Ljava/lang/AbstractStringBuilder;" } : Jvm.MethodName) jdk_68_method_22_code (3 : Nat) (Option.some (Jvm.ClassFile.FieldType.object "java/lang/AbstractStringBuilder"))).before args0 about1 = true := code_word (m := ⟨21, 4⟩) (meth := k21m4) (c := k21c4) (by decide +kernel) rfl rfl rfl (by decide +kernel)
set_option maxRecDepth 65536 in
theorem w_c47 : (Jvm.Cond.code ({ cls := "java/lang/AbstractStringBuilder", name := "ensureCapacityInternal", desc := "(I)V" } : Jvm.MethodName) jdk_68_method_9_code (3 : Nat) (Option.none : Option Jvm.ClassFile.FieldType)).before args0 about1 = true := code_word (m := ⟨21, 3⟩) (meth := k21m3) (c := k21c3) (by decide +kernel) rfl rfl rfl (by decide +kernel)
set_option maxRecDepth 65536 in
theorem w_c48 : (Jvm.Cond.code ({ cls := "java/lang/AbstractStringBuilder", name := "putStringAt", desc := "(ILjava/lang/String;)V" } : Jvm.MethodName) jdk_68_method_73_code (3 : Nat) (Option.none : Option Jvm.ClassFile.FieldType)).before args0 about1 = true := code_word (m := ⟨21, 8⟩) (meth := k21m8) (c := k21c8) (by decide +kernel) rfl rfl rfl (by decide +kernel)
set_option maxRecDepth 65536 in
theorem w_c49 : (Jvm.Cond.code ({ cls := "java/lang/AbstractStringBuilder", name := "inflateIfNeededFor", desc := "(Ljava/lang/String;)V" } : Jvm.MethodName) jdk_68_method_71_code (2 : Nat) (Option.none : Option Jvm.ClassFile.FieldType)).before args0 about1 = true := code_word (m := ⟨21, 7⟩) (meth := k21m7) (c := k21c7) (by decide +kernel) rfl rfl rfl (by decide +kernel)
set_option maxRecDepth 65536 in
theorem w_c50 : (Jvm.Cond.code ({ cls := "java/lang/String", name := "getBytes", desc := "([BIB)V" } : Jvm.MethodName) jdk_42_method_147_code (4 : Nat) (Option.none : Option Jvm.ClassFile.FieldType)).before args0 about1 = true := code_word (m := ⟨7, 11⟩) (meth := k7m11) (c := k7c11) (by decide +kernel) rfl rfl rfl (by decide +kernel)
set_option maxRecDepth 65536 in
theorem w_c51 : (Jvm.Cond.code ({ cls := "java/lang/StringBuilder", name := "toString", desc := "()Ljava/lang/String;" } : Jvm.MethodName) jdk_67_method_42_code (1 : Nat) (Option.some (Jvm.ClassFile.FieldType.object "java/lang/String"))).before args0 about1 = true := code_word (m := ⟨22, 2⟩) (meth := k22m2) (c := k22c2) (by decide +kernel) rfl rfl rfl (by decide +kernel)
set_option maxRecDepth 65536 in
theorem w_c52 : (Jvm.Cond.code ({ cls := "java/lang/String", name := "<init>", desc := "(Ljava/lang/StringBuilder;)V" } : Jvm.MethodName) jdk_42_method_53_code (2 : Nat) (Option.none : Option Jvm.ClassFile.FieldType)).before args0 about1 = true := code_word (m := ⟨7, 2⟩) (meth := k7m2) (c := k7c2) (by decide +kernel) rfl rfl rfl (by decide +kernel)
set_option maxRecDepth 65536 in
theorem w_c53 : (Jvm.Cond.code ({ cls := "java/lang/String", name := "<init>", desc := "(Ljava/lang/AbstractStringBuilder;Ljava/lang/Void;)V" } : Jvm.MethodName) jdk_42_method_150_code (5 : Nat) (Option.none : Option Jvm.ClassFile.FieldType)).before args0 about1 = true := code_word (m := ⟨7, 13⟩) (meth := k7m13) (c := k7c13) (by decide +kernel) rfl rfl rfl (by decide +kernel)
set_option maxRecDepth 65536 in
theorem w_c54 : (Jvm.Cond.code ({ cls := "java/lang/AbstractStringBuilder", name := "getValue", desc := "()[B" } : Jvm.MethodName) jdk_68_method_64_code (1 : Nat) (Option.some (Jvm.ClassFile.FieldType.array Jvm.ClassFile.FieldType.byte))).before args0 about1 = true := code_word (m := ⟨21, 5⟩) (meth := k21m5) (c := k21c5) (by decide +kernel) rfl rfl rfl (by decide +kernel)
set_option maxRecDepth 65536 in
theorem w_c55 : (Jvm.Cond.code ({ cls := "java/lang/StringBuilder", name := "length", desc := "()I" } : Jvm.MethodName) jdk_67_method_93_code (1 : Nat) (Option.some Jvm.ClassFile.FieldType.int)).before args0 about1 = true := code_word (m := ⟨22, 3⟩) (meth := k22m3) (c := k22c3) (by decide +kernel) rfl rfl rfl (by decide +kernel)
set_option maxRecDepth 65536 in
theorem w_c56 : (Jvm.Cond.code ({ cls := "java/lang/AbstractStringBuilder", name := "length", desc := "()I" } : Jvm.MethodName) jdk_68_method_6_code (1 : Nat) (Option.some Jvm.ClassFile.FieldType.int)).before args0 about1 = true := code_word (m := ⟨21, 2⟩) (meth := k21m2) (c := k21c2) (by decide +kernel) rfl rfl rfl (by decide +kernel)
set_option maxRecDepth 65536 in
theorem w_c57 : (Jvm.Cond.code ({ cls := "java/lang/AbstractStringBuilder", name := "isLatin1", desc := "()Z" } : Jvm.MethodName) jdk_68_method_68_code (1 : Nat) (Option.some Jvm.ClassFile.FieldType.boolean)).before args0 about1 = true := code_word (m := ⟨21, 6⟩) (meth := k21m6) (c := k21c6) (by decide +kernel) rfl rfl rfl (by decide +kernel)
def codes1 : List Jvm.Cond := [Jvm.Cond.code x code maxLocals ret, Jvm.Cond.code ({ cls := "com/example/ibex/ibex/model/ApproximateNumbersHoldsPinLaw", name := "digit", desc := "(I)C" } : Jvm.MethodName) method_2_code (1 : Nat) (Option.some Jvm.ClassFile.FieldType.char), Jvm.Cond.code ({ cls := "java/lang/String", name := "<init>", desc := "([C)V" } : Jvm.MethodName) jdk_42_method_3_code (2 : Nat) (Option.none : Option Jvm.ClassFile.FieldType), Jvm.Cond.code ({ cls := "java/lang/String", name := "<init>", desc := "([CIILjava/lang/Void;)V" } : Jvm.MethodName) jdk_42_method_149_code (6 : Nat) (Option.none : Option Jvm.ClassFile.FieldType), Jvm.Cond.code ({ cls := "java/lang/Object", name := "<init>", desc := "()V" } : Jvm.MethodName) object_method_1_code (1 : Nat) (Option.none : Option Jvm.ClassFile.FieldType), Jvm.Cond.code ({ cls := "java/lang/StringUTF16", name := "compress", desc := "([CII)[B" } : Jvm.MethodName) jdk_52_method_16_code (6 : Nat) (Option.some (Jvm.ClassFile.FieldType.array Jvm.ClassFile.FieldType.byte)), Jvm.Cond.code ({ cls := "java/lang/StringUTF16", name := "compress", desc := "([CI[BII)I" } : Jvm.MethodName) jdk_52_method_21_code (7 : Nat) (Option.some Jvm.ClassFile.FieldType.int), Jvm.Cond.code ({ cls := "java/lang/StringUTF16", name := "coderFromArrayLen", desc := "([BI)B" } : Jvm.MethodName) jdk_52_method_15_code (2 : Nat) (Option.some Jvm.ClassFile.FieldType.byte), Jvm.Cond.code ({ cls := "com/example/ibex/ibex/model/Constant", name := "<init>", desc := "(ZLjava/lang/String;)V" } : Jvm.MethodName) prog_69_method_1_code (3 : Nat) (Option.none : Option Jvm.ClassFile.FieldType), Jvm.Cond.code ({ cls := "java/lang/Record", name := "<init>", desc := "()V" } : Jvm.MethodName) jdk_30_method_1_code (1 : Nat) (Option.none : Option Jvm.ClassFile.FieldType), Jvm.Cond.code ({ cls := "java/util/Objects", name := "requireNonNull", desc := "(Ljava/lang/Object;Ljava/lang/String;)Ljava/lang/Object;" } : Jvm.MethodName) jdk_31_method_11_code (2 : Nat) (Option.some (Jvm.ClassFile.FieldType.object "java/lang/Object")), Jvm.Cond.code ({ cls := "com/example/ibex/ibex/model/Constant", name := "plainDigits", desc := "(Ljava/lang/String;)Ljava/lang/String;" } : Jvm.MethodName) prog_69_method_5_code (8 : Nat) (Option.some (Jvm.ClassFile.FieldType.object "java/lang/String")), Jvm.Cond.code ({ cls := "java/lang/String", name := "startsWith", desc := "(Ljava/lang/String;)Z" } : Jvm.MethodName) jdk_42_method_76_code (2 : Nat) (Option.some Jvm.ClassFile.FieldType.boolean), Jvm.Cond.code ({ cls := "java/lang/String", name := "startsWith", desc := "(Ljava/lang/String;I)Z" } : Jvm.MethodName) jdk_42_method_75_code (8 : Nat) (Option.some Jvm.ClassFile.FieldType.boolean), Jvm.Cond.code ({ cls := "java/lang/String", name := "length", desc := "()I" } : Jvm.MethodName) jdk_42_method_54_code (1 : Nat) (Option.some Jvm.ClassFile.FieldType.int), Jvm.Cond.code ({ cls := "java/lang/String", name := "coder", desc := "()B" } : Jvm.MethodName) jdk_42_method_152_code (1 : Nat) (Option.some Jvm.ClassFile.FieldType.byte), Jvm.Cond.code ({ cls := "jdk/internal/util/ArraysSupport", name := "mismatch", desc := "([BI[BII)I" } : Jvm.MethodName) jdk_48_method_14_code (8 : Nat) (Option.some Jvm.ClassFile.FieldType.int), Jvm.Cond.code ({ cls := "java/lang/String", name := "indexOf", desc := "(I)I" } : Jvm.MethodName) jdk_42_method_79_code (2 : Nat) (Option.some Jvm.ClassFile.FieldType.int), Jvm.Cond.code ({ cls := "java/lang/String", name := "indexOf", desc := "(II)I" } : Jvm.MethodName) jdk_42_method_80_code (3 : Nat) (Option.some Jvm.ClassFile.FieldType.int), Jvm.Cond.code ({ cls := "java/lang/String", name := "isLatin1", desc := "()Z" } : Jvm.MethodName) jdk_42_method_154_code (1 : Nat) (Option.some Jvm.ClassFile.FieldType.boolean), Jvm.Cond.code ({ cls := "java/lang/StringLatin1", name := "indexOf", desc := "([BIII)I" } : Jvm.MethodName) jdk_43_method_22_code (4 : Nat) (Option.some Jvm.ClassFile.FieldType.int), Jvm.Cond.code ({ cls := "java/lang/StringLatin1", name := "canEncode", desc := "(I)Z" } : Jvm.MethodName) jdk_43_method_4_code (1 : Nat) (Option.some Jvm.ClassFile.FieldType.boolean), Jvm.Cond.code ({ cls := "java/lang/Math", name := "max", desc := "(II)I" } : Jvm.MethodName) jdk_29_method_65_code (2 : Nat) (Option.some Jvm.ClassFile.FieldType.int), Jvm.Cond.code ({ cls := "java/lang/Math", name := "min", desc := "(II)I" } : Jvm.MethodName) jdk_29_method_69_code (2 : Nat) (Option.some Jvm.ClassFile.FieldType.int), Jvm.Cond.code ({ cls := "java/lang/StringLatin1", name := "indexOfChar", desc := "([BIII)I" } : Jvm.MethodName) jdk_43_method_23_code (6 : Nat) (Option.some Jvm.ClassFile.FieldType.int), Jvm.Cond.code ({ cls := "com/example/ibex/ibex/model/Constant", name := "digits", desc := "(Ljava/lang/String;II)Z" } : Jvm.MethodName) prog_69_method_6_code (5 : Nat) (Option.some Jvm.ClassFile.FieldType.boolean), Jvm.Cond.code ({ cls := "java/lang/String", name := "charAt", desc := "(I)C" } : Jvm.MethodName) jdk_42_method_56_code (2 : Nat) (Option.some Jvm.ClassFile.FieldType.char), Jvm.Cond.code ({ cls := "java/lang/StringLatin1", name := "charAt", desc := "([BI)C" } : Jvm.MethodName) jdk_43_method_2_code (2 : Nat) (Option.some Jvm.ClassFile.FieldType.char), Jvm.Cond.code ({ cls := "java/lang/String", name := "checkIndex", desc := "(II)V" } : Jvm.MethodName) jdk_42_method_155_code (2 : Nat) (Option.none : Option Jvm.ClassFile.FieldType), Jvm.Cond.code ({ cls := "jdk/internal/util/Preconditions", name := "checkIndex", desc := "(IILjava/util/function/BiFunction;)I" } : Jvm.MethodName) jdk_41_method_11_code (3 : Nat) (Option.some Jvm.ClassFile.FieldType.int), Jvm.Cond.code ({ cls := "java/lang/String", name := "substring", desc := "(II)Ljava/lang/String;" } : Jvm.MethodName) jdk_42_method_92_code (5 : Nat) (Option.some (Jvm.ClassFile.FieldType.object "java/lang/String")), Jvm.Cond.code ({ cls := "java/lang/String", name := "checkBoundsBeginEnd", desc := "(III)V" } : Jvm.MethodName) jdk_42_method_158_code (3 : Nat) (Option.none : Option Jvm.ClassFile.FieldType), Jvm.Cond.code ({ cls := "jdk/internal/util/Preconditions", name := "checkFromToIndex", desc := "(IIILjava/util/function/BiFunction;)I" } : Jvm.MethodName) jdk_41_method_12_code (4 : Nat) (Option.some Jvm.ClassFile.FieldType.int), Jvm.Cond.code ({ cls := "com/example/ibex/ibex/model/ColumnType$ApproximateNumbers", name := "<init>", desc := "()V" } : Jvm.MethodName) prog_66_method_1_code (1 : Nat) (Option.none : Option Jvm.ClassFile.FieldType), Jvm.Cond.code ({ cls := "com/example/ibex/ibex/model/ColumnType$ApproximateNumbers", name := "holds", desc := "(Lcom/example/ibex/ibex/model/Constant;)Z" } : Jvm.MethodName) prog_66_method_2_code (2 : Nat) (Option.some Jvm.ClassFile.FieldType.boolean), Jvm.Cond.code ({ cls := "com/example/ibex/ibex/model/Constant", name := "string", desc := "()Z" } : Jvm.MethodName) prog_69_method_10_code (1 : Nat) (Option.some Jvm.ClassFile.FieldType.boolean), Jvm.Cond.code ({ cls := "java/lang/StringLatin1", name := "newString", desc := "([BII)Ljava/lang/String;" } : Jvm.MethodName) jdk_43_method_47_code (3 : Nat) (Option.some (Jvm.ClassFile.FieldType.object "java/lang/String")), Jvm.Cond.code ({ cls := "java/util/Arrays", name := "copyOfRange", desc := "([BII)[B" } : Jvm.MethodName) jdk_65_method_132_code (3 : Nat) (Option.some (Jvm.ClassFile.FieldType.array Jvm.ClassFile.FieldType.byte)), Jvm.Cond.code ({ cls := "java/util/Arrays", name := "copyOfRangeByte", desc := "([BII)[B" } : Jvm.MethodName) jdk_65_method_133_code (5 : Nat) (Option.some (Jvm.ClassFile.FieldType.array Jvm.ClassFile.FieldType.byte)), Jvm.Cond.code ({ cls := "java/util/Arrays", name := "checkLength", desc := "(II)V" } : Jvm.MethodName) jdk_65_method_131_code (2 : Nat) (Option.none : Option Jvm.ClassFile.FieldType), Jvm.Cond.code ({ cls := "java/lang/String", name := "<init>", desc := "([BB)V" } : Jvm.MethodName) jdk_42_method_151_code (3 : Nat) (Option.none : Option Jvm.ClassFile.FieldType), Jvm.Cond.code ({ cls := "java/lang/String", name := "equals", desc := "(Ljava/lang/Object;)Z" } : Jvm.MethodName) jdk_42_method_66_code (3 : Nat) (Option.some Jvm.ClassFile.FieldType.boolean), Jvm.Cond.code ({ cls := "java/lang/StringLatin1", name := "equals", desc := "([B[B)Z" } : Jvm.MethodName) jdk_43_method_13_code (3 : Nat) (Option.some Jvm.ClassFile.FieldType.boolean), Jvm.Cond.code ({ cls := "java/lang/StringBuilder", name := "<init>", desc := "()V" } : Jvm.MethodName) jdk_67_method_1_code (1 : Nat) (Option.none : Option Jvm.ClassFile.FieldType), Jvm.Cond.code ({ cls := "java/lang/AbstractStringBuilder", name := "<init>", desc := "(I)V" } : Jvm.MethodName) jdk_68_method_2_code (2 : Nat) (Option.none : Option Jvm.ClassFile.FieldType), Jvm.Cond.code ({ cls := "java/lang/StringBuilder", name := "append", desc := "(Ljava/lang/String;)Ljava/lang/StringBuilder;" } : Jvm.MethodName) jdk_67_method_7_code (2 : Nat) (Option.some (Jvm.ClassFile.FieldType.object "java/lang/StringBuilder")), Jvm.Cond.code ({ cls := "java/lang/AbstractStringBuilder", name := "append", desc := "(Ljava/lang/String;)Ljava/lang/AbstractStringBuilder;" } : Jvm.MethodName) jdk_68_method_22_code (3 : Nat) (Option.some (Jvm.ClassFile.FieldType.object "java/lang/AbstractStringBuilder")), Jvm.Cond.code ({ cls := "java/lang/AbstractStringBuilder", name := "ensureCapacityInternal", desc := "(I)V" } : Jvm.MethodName) jdk_68_method_9_code (3 : Nat) (Option.none : Option Jvm.ClassFile.FieldType), Jvm.Cond.code ({ cls := "java/lang/AbstractStringBuilder", name := "putStringAt", desc := "(ILjava/lang/String;)V" } : Jvm.MethodName) jdk_68_method_73_code (3 : Nat) (Option.none : Option Jvm.ClassFile.FieldType), Jvm.Cond.code ({ cls := "java/lang/AbstractStringBuilder", name := "inflateIfNeededFor", desc := "(Ljava/lang/String;)V" } : Jvm.MethodName) jdk_68_method_71_code (2 : Nat) (Option.none : Option Jvm.ClassFile.FieldType), Jvm.Cond.code ({ cls := "java/lang/String", name := "getBytes", desc := "([BIB)V" } : Jvm.MethodName) jdk_42_method_147_code (4 : Nat) (Option.none : Option Jvm.ClassFile.FieldType), Jvm.Cond.code ({ cls := "java/lang/StringBuilder", name := "toString", desc := "()Ljava/lang/String;" } : Jvm.MethodName) jdk_67_method_42_code (1 : Nat) (Option.some (Jvm.ClassFile.FieldType.object "java/lang/String")), Jvm.Cond.code ({ cls := "java/lang/String", name := "<init>", desc := "(Ljava/lang/StringBuilder;)V" } : Jvm.MethodName) jdk_42_method_53_code (2 : Nat) (Option.none : Option Jvm.ClassFile.FieldType), Jvm.Cond.code ({ cls := "java/lang/String", name := "<init>", desc := "(Ljava/lang/AbstractStringBuilder;Ljava/lang/Void;)V" } : Jvm.MethodName) jdk_42_method_150_code (5 : Nat) (Option.none : Option Jvm.ClassFile.FieldType), Jvm.Cond.code ({ cls := "java/lang/AbstractStringBuilder", name := "getValue", desc := "()[B" } : Jvm.MethodName) jdk_68_method_64_code (1 : Nat) (Option.some (Jvm.ClassFile.FieldType.array Jvm.ClassFile.FieldType.byte)), Jvm.Cond.code ({ cls := "java/lang/StringBuilder", name := "length", desc := "()I" } : Jvm.MethodName) jdk_67_method_93_code (1 : Nat) (Option.some Jvm.ClassFile.FieldType.int), Jvm.Cond.code ({ cls := "java/lang/AbstractStringBuilder", name := "length", desc := "()I" } : Jvm.MethodName) jdk_68_method_6_code (1 : Nat) (Option.some Jvm.ClassFile.FieldType.int), Jvm.Cond.code ({ cls := "java/lang/AbstractStringBuilder", name := "isLatin1", desc := "()Z" } : Jvm.MethodName) jdk_68_method_68_code (1 : Nat) (Option.some Jvm.ClassFile.FieldType.boolean)]
set_option maxRecDepth 65536 in
theorem codes_eq : words1.filter isCode = codes1 := rfl
theorem w_codes : ∀ c ∈ words1.filter isCode, c.before args0 about1 = true := by
  rw [codes_eq]
  intro c hc
  simp only [codes1, List.mem_cons, List.not_mem_nil, or_false] at hc
  rcases hc with rfl | rfl | rfl | rfl | rfl | rfl | rfl | rfl | rfl | rfl | rfl | rfl | rfl | rfl | rfl | rfl | rfl | rfl | rfl | rfl | rfl | rfl | rfl | rfl | rfl | rfl | rfl | rfl | rfl | rfl | rfl | rfl | rfl | rfl | rfl | rfl | rfl | rfl | rfl | rfl | rfl | rfl | rfl | rfl | rfl | rfl | rfl | rfl | rfl | rfl | rfl | rfl | rfl | rfl | rfl | rfl | rfl | rfl
  · exact w_c0
  · exact w_c1
  · exact w_c2
  · exact w_c3
  · exact w_c4
  · exact w_c5
  · exact w_c6
  · exact w_c7
  · exact w_c8
  · exact w_c9
  · exact w_c10
  · exact w_c11
  · exact w_c12
  · exact w_c13
  · exact w_c14
  · exact w_c15
  · exact w_c16
  · exact w_c17
  · exact w_c18
  · exact w_c19
  · exact w_c20
  · exact w_c21
  · exact w_c22
  · exact w_c23
  · exact w_c24
  · exact w_c25
  · exact w_c26
  · exact w_c27
  · exact w_c28
  · exact w_c29
  · exact w_c30
  · exact w_c31
  · exact w_c32
  · exact w_c33
  · exact w_c34
  · exact w_c35
  · exact w_c36
  · exact w_c37
  · exact w_c38
  · exact w_c39
  · exact w_c40
  · exact w_c41
  · exact w_c42
  · exact w_c43
  · exact w_c44
  · exact w_c45
  · exact w_c46
  · exact w_c47
  · exact w_c48
  · exact w_c49
  · exact w_c50
  · exact w_c51
  · exact w_c52
  · exact w_c53
  · exact w_c54
  · exact w_c55
  · exact w_c56
  · exact w_c57
set_option maxRecDepth 65536 in
theorem w_t1 : (words1.take 24).all (fun c => isCode c || c.before args0 about1) = true := by decide +kernel
set_option maxRecDepth 65536 in
theorem w_t2 : ((words1.drop 24).take 24).all (fun c => isCode c || c.before args0 about1) = true := by decide +kernel
set_option maxRecDepth 65536 in
theorem w_t3 : (((words1.drop 24).drop 24).take 24).all (fun c => isCode c || c.before args0 about1) = true := by decide +kernel
set_option maxRecDepth 65536 in
theorem w_t4 : ((((words1.drop 24).drop 24).drop 24).take 24).all (fun c => isCode c || c.before args0 about1) = true := by decide +kernel
set_option maxRecDepth 65536 in
theorem w_t5 : (((((words1.drop 24).drop 24).drop 24).drop 24).take 24).all (fun c => isCode c || c.before args0 about1) = true := by decide +kernel
set_option maxRecDepth 65536 in
theorem w_t6 : ((((((words1.drop 24).drop 24).drop 24).drop 24).drop 24).take 24).all (fun c => isCode c || c.before args0 about1) = true := by decide +kernel
set_option maxRecDepth 65536 in
theorem w_t7 : (((((((words1.drop 24).drop 24).drop 24).drop 24).drop 24).drop 24).take 24).all (fun c => isCode c || c.before args0 about1) = true := by decide +kernel
set_option maxRecDepth 65536 in
theorem w_t8 : ((((((((words1.drop 24).drop 24).drop 24).drop 24).drop 24).drop 24).drop 24).take 24).all (fun c => isCode c || c.before args0 about1) = true := by decide +kernel
set_option maxRecDepth 65536 in
theorem w_t9 : (((((((((words1.drop 24).drop 24).drop 24).drop 24).drop 24).drop 24).drop 24).drop 24).take 24).all (fun c => isCode c || c.before args0 about1) = true := by decide +kernel
set_option maxRecDepth 65536 in
theorem w_t10 : ((((((((((words1.drop 24).drop 24).drop 24).drop 24).drop 24).drop 24).drop 24).drop 24).drop 24).take 24).all (fun c => isCode c || c.before args0 about1) = true := by decide +kernel
set_option maxRecDepth 65536 in
theorem w_t11 : (((((((((((words1.drop 24).drop 24).drop 24).drop 24).drop 24).drop 24).drop 24).drop 24).drop 24).drop 24).take 24).all (fun c => isCode c || c.before args0 about1) = true := by decide +kernel
set_option maxRecDepth 65536 in
theorem w_t12 : (((((((((((words1.drop 24).drop 24).drop 24).drop 24).drop 24).drop 24).drop 24).drop 24).drop 24).drop 24).drop 24).all (fun c => isCode c || c.before args0 about1) = true := by decide +kernel
theorem w_tables : (allAtoms (Jvm.Cond.code x code maxLocals ret :: tables_1)).before args0 about1 = true := by
  rw [allAtoms_all]
  show words1.all (fun c => c.before args0 about1) = true
  refine all_split ?_ w_codes
  rw [← List.take_append_drop 24 words1, List.all_append, w_t1, ← List.take_append_drop 24 (words1.drop 24), List.all_append, w_t2, ← List.take_append_drop 24 ((words1.drop 24).drop 24), List.all_append, w_t3, ← List.take_append_drop 24 (((words1.drop 24).drop 24).drop 24), List.all_append, w_t4, ← List.take_append_drop 24 ((((words1.drop 24).drop 24).drop 24).drop 24), List.all_append, w_t5, ← List.take_append_drop 24 (((((words1.drop 24).drop 24).drop 24).drop 24).drop 24), List.all_append, w_t6, ← List.take_append_drop 24 ((((((words1.drop 24).drop 24).drop 24).drop 24).drop 24).drop 24), List.all_append, w_t7, ← List.take_append_drop 24 (((((((words1.drop 24).drop 24).drop 24).drop 24).drop 24).drop 24).drop 24), List.all_append, w_t8, ← List.take_append_drop 24 ((((((((words1.drop 24).drop 24).drop 24).drop 24).drop 24).drop 24).drop 24).drop 24), List.all_append, w_t9, ← List.take_append_drop 24 (((((((((words1.drop 24).drop 24).drop 24).drop 24).drop 24).drop 24).drop 24).drop 24).drop 24), List.all_append, w_t10, ← List.take_append_drop 24 ((((((((((words1.drop 24).drop 24).drop 24).drop 24).drop 24).drop 24).drop 24).drop 24).drop 24).drop 24), List.all_append, w_t11, w_t12]
  rfl
set_option maxRecDepth 65536 in
theorem w_rest : rest_1_c.before args0 about1 = true := by decide +kernel
set_option maxRecDepth 65536 in
theorem w_case : (Jvm.Cond.and given_1 narrow_1).before args0 about1 = true := by decide +kernel
set_option maxRecDepth 65536 in
theorem w_consts : constsHeld consts_1 about1 := Jvm.Lit.constsHeldB_iff.mp (by decide +kernel)
theorem w_applies : (headSpec (Jvm.Cond.code x code maxLocals ret :: tables_1) room_1).applies x e0.platform about1 = true :=
  (Spec.applies_iff w_frames).mpr ⟨w_running, w_runnable, w_alone, w_named, w_hears, w_ripe, w_room, w_tables⟩
theorem atStart : AtStart classFile x code maxLocals ret World_1 tables_1 room_1 Calls_1 rest_1 Pre_1 launch0 p0 e0 about1 theMethod args0 below0 :=
  ⟨lists_1, trivial, launch0.admits_env _ _ _, launch0.least_env, fairChoices_fair.cas, fairChoices_fair.clock, w_frames, w_args, w_heap, w_applies, ⟨w_consts, trivial⟩, w_rest, w_case⟩
end start1
theorem witness_1 : WitnessClaimed_1 := ⟨start1.p0, start1.e0, start1.about1, start1.theMethod, start1.args0, start1.below0, start1.atStart⟩
end Jvm.Pilot.@@N@@
